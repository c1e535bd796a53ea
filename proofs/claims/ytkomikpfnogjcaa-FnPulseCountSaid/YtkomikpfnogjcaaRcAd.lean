/- What is read by a script's beginning: the law's walk. -/
import Derived.Test.YtkomikpfnogjcaaRcAc
namespace Go.Proofs.Ytkomikpfnogjcaa
open Go Go.Vc
set_option maxRecDepth 100000
set_option maxHeartbeats 4000000

theorem bool_eq_f {a b : Bool} (h : (bif false then !a == b else a == b) = false) : a ≠ b := by
  rintro rfl
  cases a <;> cases h
theorem opsAt.fits {w0 : World} {v : Value} {l : List OpV} (hv : opsAt w0 v l) : ∀ o ∈ l, o.fits w0 := by
  intro o ho
  rcases hv with ⟨_, rfl⟩ | ⟨a, c, rfl, h1, h2, hb⟩
  · cases ho
  · obtain ⟨j, hj, rfl⟩ := List.getElem_of_mem ho
    exact (hb j _ (List.getElem?_eq_getElem hj)).2
theorem alikeW (w0 : World) (s : SeenV) : CallsA Try.prog w0 16 [.a s.cells, .a s.cells] [] fun r H' => r = .o (.c (.val (.bool true))) ∧ H' = [] := by
  refine callsA_of_ev c16_ ?_
  conv => whnf
  refine ⟨fun _ => ?_, fun h => absurd rfl (ieq_f h)⟩
  conv => whnf
  refine ⟨fun hf => ?_, fun hf => absurd rfl (bool_eq_f hf)⟩
  conv => whnf
  refine ⟨fun _ => ?_, fun h => absurd rfl (ieq_f h)⟩
  conv => whnf
  refine ⟨fun _ => ?_, fun h => absurd rfl (ieq_f h)⟩
  conv => whnf
  refine ⟨fun _ => ?_, fun h => absurd rfl (ieq_f h)⟩
  conv => whnf
  have : (s.left == s.left) = true := beq_self_eq_true _
  refine Or.inr ⟨[], .o (.c (.val (.bool true))), [], ⟨rfl, trivial, rfl⟩, ?_, rfl, rfl⟩
  rw [this]
  rfl
theorem opsV (w0 : World) {v : Value} {l : List OpV} (hv : opsAt w0 v l) (h2 : l.length ≤ 65536) :
    CallsA Try.prog w0 15 [.c (.val v)] [] fun r H => (l = [] ∧ r = .o (.c (.val (.slice none 0 0))) ∧ H = []) ∨ (l ≠ [] ∧ r = .o (.c (.vec 0 l.length)) ∧ H = [.vec true 80 encOp [] 6 l]) := by
  rcases hv with ⟨rfl, rfl⟩ | ⟨a, c, rfl, h1, _, hb⟩
  · refine callsA_of_ev c15_ ?_
    conv => whnf
    refine Or.inl ?_
    conv => whnf
    refine ⟨Unit, fun _ => ⟨[(3, .o (.c (.val (.slice none 0 0)))), (6, .o (.c (.val (.slice none 0 0)))), (7, .o (.c (.val (.int .i64 ((0 : Nat) : Int))))), (8, .o (.c (.val (.int .i64 ((0 : Nat) : Int)))))], []⟩, fun _ => 0, ⟨(), [], ⟨rfl, trivial, rfl⟩, rfl, rfl, rfl, rfl, trivial⟩, fun _ => ?_⟩
    conv => whnf
    refine ⟨fun h => absurd (lt_t h) (by omega), fun _ => ?_⟩
    conv => whnf
    exact Or.inl (Or.inl ⟨rfl, rfl, rfl⟩)
  · exact opsW w0 h2 fun i x hx => (hb i x hx).1
theorem opsAt.take {w0 : World} {v : Value} {l : List OpV} (hv : opsAt w0 v l) {k : Nat} (hk : k ≤ l.length) : (v = .slice none 0 0 ∧ l = []) ∨ ∃ a c, v = .slice (some a) l.length c ∧ l.length ≤ c ∧ opsAt w0 (.slice (some a) k c) (l.take k) := by
  rcases hv with h | ⟨a, c, rfl, h1, h2, hb⟩
  · exact Or.inl h
  · refine Or.inr ⟨a, c, rfl, h1, Or.inr ⟨a, c, ?_, ?_, h2, fun i x hx => hb i x ?_⟩⟩
    · rw [List.length_take, Nat.min_eq_left hk]
    · rw [List.length_take]; omega
    · rw [List.getElem?_take] at hx
      split at hx
      · exact hx
      · cases hx
theorem Dec.seen_take (d : Dec) (l : List OpV) (k : Nat) : d.seen (l.take k) = (d.seen l).take k := by
  induction l generalizing d k with
  | nil => simp [Dec.seen]
  | cons o r ih =>
    cases k with
    | zero => rfl
    | succ k =>
      simp only [List.take_succ_cons, Dec.seen, ih]

theorem hvk' {w0 : World} {a : Addr} {k c : Nat} {l : List OpV} (h : opsAt w0 (.slice (some a) k c) l) : opsAt w0 (.slice (some (if c = 0 then a else a.add (0 * 6))) k c) l := by
  have : (if c = 0 then a else a.add (0 * 6)) = a := by
    split
    · rfl
    · unfold Addr.add
      simp
  rw [this]
  exact h
theorem prefixW (w0 : World) {b : ByteArray} {v : Value} {l : List OpV} (hv : opsAt w0 v l) (hl : l.length ≤ 9223372036854775807) {n : Nat} (hn : n < 65536) : CallsA Try.prog w0 5 [.c (.val (.string b)), .c (.val v), .c (.val (.int .u16 n))] [] fun r _ => r = .o (.c (.val (.bool true))) := by
  refine callsA_of_ev c5_ ?_
  conv => whnf
  refine Or.inl ?_
  conv => whnf
  refine ⟨fun _ => ?_, fun hb => ?_⟩
  · conv => whnf
    exact Or.inl rfl
  have hb : b.size ≤ 2147483647 := gt_f hb
  conv => whnf
  refine (zzFits2W w0 hv hl).mono ?_
  rintro _ _ ⟨b1, rfl, rfl, hl2⟩
  conv => whnf
  refine ⟨fun _ => ?_, fun h1 => ?_⟩
  · conv => whnf
    exact Or.inl rfl
  have hl2 : l.length ≤ 2147483647 := hl2 (by cases b1 <;> first | rfl | cases h1)
  conv => whnf
  refine Or.inl ?_
  conv => whnf
  refine ⟨fun _ => ?_, fun hb2 => ?_⟩
  · conv => whnf
    exact Or.inl rfl
  conv => whnf
  refine (readW w0 hv b.size 400 hl).mono ?_
  rintro _ _ ⟨b2, rfl, rfl, hr⟩
  conv => whnf
  refine ⟨fun _ => ?_, fun h2 => ?_⟩
  · conv => whnf
    exact Or.inl rfl
  obtain ⟨hl4, hr⟩ := hr (by cases b2 <;> first | rfl | cases h2)
  have hg : ∀ o ∈ l, o.good w0 ∧ o.tab.oneCell' = true := fun o ho => ⟨(hr o ho).good (hv.fits o ho), (hv.fits o ho).one⟩
  have hbb : b.size ≤ 2000 := gt_f hb2
  rcases hv.take (k := n % (l.length + 1)) (by have := Nat.mod_lt n (show 0 < l.length + 1 by omega); omega) with ⟨rfl, rfl⟩ | ⟨a, c, rfl, hlc, hvk⟩
  · conv => whnf
    simp (disch := omega) only [nadd, nwrapi, ntmod]
    refine ⟨by omega, ?_⟩
    conv => whnf
    refine (opsV w0 hv (by simp)).mono ?_
    rintro _ _ (⟨_, rfl, rfl⟩ | ⟨h, _⟩)
    · conv => whnf
      refine (decodeW0 w0 (b := b) (by omega)).mono ?_
      rintro _ _ ⟨rfl, rfl⟩
      conv => whnf
      refine ⟨rfl, by omega, Or.inl ?_⟩
      conv => whnf
      refine (opsV w0 hv (by simp)).mono ?_
      rintro _ _ (⟨_, rfl, rfl⟩ | ⟨h, _⟩)
      · conv => whnf
        refine (decodeW0 w0 (b := b) (by omega)).mono ?_
        rintro _ _ ⟨rfl, rfl⟩
        conv => whnf
        refine Or.inl ?_
        conv => whnf
        refine ⟨fun h => absurd h (by decide), fun _ => ?_⟩
        conv => whnf
        refine ⟨fun h => absurd h (by decide), fun _ => ?_⟩
        conv => whnf
        refine ⟨fun h => absurd h (by decide), fun _ => ?_⟩
        conv => whnf
        refine ⟨fun h => absurd (show 0 = n % (0 + 1) by omega) (bne_t h), fun _ => ?_⟩
        conv => whnf
        refine Or.inl ?_
        conv => whnf
        refine ⟨Unit, fun _ => ⟨[(80, .o (.c (.val (.slice none 0 0)))), (81, .o (.c (.val (.int .i64 ((0 : Nat) : Int))))), (82, .o (.c (.val (.int .i64 ((0 : Nat) : Int)))))], []⟩, fun _ => 0, ⟨(), [], ⟨rfl, trivial, rfl⟩, rfl, rfl, rfl, trivial⟩, fun _ => ?_⟩
        conv => whnf
        refine ⟨fun h => absurd (lt_t h) (by omega), fun _ => ?_⟩
        conv => whnf
        refine (aliveW w0).mono ?_
        rintro _ _ ⟨rfl, rfl⟩
        conv => whnf
        exact Or.inl rfl
      · exact absurd rfl h
    · exact absurd rfl h
  · conv => whnf
    simp (disch := omega) only [nadd, nwrapi, ntmod]
    refine ⟨by omega, ?_⟩
    have hk : n % (l.length + 1) ≤ l.length := by
      have := Nat.mod_lt n (show 0 < l.length + 1 by omega)
      omega
    generalize n % (l.length + 1) = k at *
    conv => whnf
    refine (opsV w0 hv (by omega)).mono ?_
    rintro _ _ (⟨rfl, rfl, rfl⟩ | ⟨hne, rfl, rfl⟩)
    · conv => whnf
      refine (decodeW0 w0 (b := b) (by omega)).mono ?_
      rintro _ _ ⟨rfl, rfl⟩
      conv => whnf
      obtain rfl : k = 0 := by simpa using hk
      refine ⟨⟨by omega, by omega, by omega⟩, ?_⟩
      conv => whnf
      refine (opsV w0 (hvk' hvk) (by simp)).mono ?_
      rintro _ _ (⟨_, rfl, rfl⟩ | ⟨h, _⟩)
      · conv => whnf
        refine (decodeW0 w0 (b := b) (by omega)).mono ?_
        rintro _ _ ⟨rfl, rfl⟩
        conv => whnf
        refine Or.inl ?_
        conv => whnf
        refine ⟨fun h => absurd h (by decide), fun _ => ?_⟩
        conv => whnf
        refine ⟨fun h => absurd h (by decide), fun _ => ?_⟩
        conv => whnf
        refine ⟨fun h => absurd h (by decide), fun _ => ?_⟩
        conv => whnf
        refine ⟨fun h => absurd h (by decide), fun _ => ?_⟩
        conv => whnf
        refine Or.inl ?_
        conv => whnf
        refine ⟨Unit, fun _ => ⟨[(80, .o (.c (.val (.slice none 0 0)))), (81, .o (.c (.val (.int .i64 ((0 : Nat) : Int))))), (82, .o (.c (.val (.int .i64 ((0 : Nat) : Int)))))], []⟩, fun _ => 0, ⟨(), [], ⟨rfl, trivial, rfl⟩, rfl, rfl, rfl, trivial⟩, fun _ => ?_⟩
        conv => whnf
        refine ⟨fun h => absurd (lt_t h) (by omega), fun _ => ?_⟩
        conv => whnf
        refine (aliveW w0).mono ?_
        rintro _ _ ⟨rfl, rfl⟩
        conv => whnf
        exact Or.inl rfl
      · exact absurd rfl h
    · conv => whnf
      refine (decodeW w0 (b := b) (l := l) (by omega) hne (by omega) hg).mono ?_
      rintro _ _ ⟨rfl, rfl⟩
      conv => whnf
      refine ⟨⟨by omega, by omega, by omega⟩, ?_⟩
      conv => whnf
      refine CallsA.lift (H0 := []) [] rfl trivial rfl (opsV w0 (hvk' hvk) (by rw [List.length_take]; omega)) ?_
      rintro _ _ (⟨hk0, rfl, rfl⟩ | ⟨hk0, rfl, rfl⟩)
      · conv => whnf
        refine CallsA.lift (H0 := []) [] rfl trivial rfl (decodeW0 w0 (b := b) (by omega)) ?_
        rintro _ _ ⟨rfl, rfl⟩
        conv => whnf
        refine Or.inl ?_
        conv => whnf
        obtain rfl : k = 0 := by
          rcases List.take_eq_nil_iff.1 hk0 with h | h
          · exact h
          · exact absurd h hne
        refine ⟨fun h => absurd h (by decide), fun _ => ?_⟩
        conv => whnf
        refine ⟨fun h => absurd h (by decide), fun _ => ?_⟩
        conv => whnf
        refine ⟨fun h => absurd rfl (bne_t h), fun _ => ?_⟩
        conv => whnf
        refine ⟨fun h => absurd rfl (bne_t h), fun _ => ?_⟩
        conv => whnf
        refine Or.inl ?_
        conv => whnf
        refine ⟨Unit, fun _ => ⟨[(80, .o (.c (.val (.slice none 0 0)))), (81, .o (.c (.val (.int .i64 ((0 : Nat) : Int))))), (82, .o (.c (.val (.int .i64 ((0 : Nat) : Int)))))], []⟩, fun _ => 0, ⟨(), [], ⟨rfl, trivial, rfl⟩, rfl, rfl, rfl, trivial⟩, fun _ => ?_⟩
        conv => whnf
        refine ⟨fun h => absurd (lt_t h) (by omega), fun _ => ?_⟩
        conv => whnf
        refine (aliveW w0).mono ?_
        rintro _ _ ⟨rfl, rfl⟩
        conv => whnf
        exact Or.inl rfl
      · conv => whnf
        refine CallsA.lift (H0 := [.vec true 80 encOp [] 6 (l.take k)]) [2] rfl ⟨rfl, rfl, trivial⟩ rfl (decodeW w0 (b := b) (l := l.take k) (by omega) hk0 (by rw [List.length_take]; omega) fun o ho => hg o (List.mem_of_mem_take ho)) ?_
        rintro _ _ ⟨rfl, rfl⟩
        conv => whnf
        refine Or.inl ?_
        conv => whnf
        have hkl : (l.take k).length = k := by rw [List.length_take]; omega
        have hpart := (Dec.init (bytesOf b)).seen_take l k
        have hwl := (Dec.init (bytesOf b)).seen_len l
        rw [hpart]
        generalize (Dec.init (bytesOf b)).seen l = whole at *
        rw [hkl]
        refine ⟨fun h => absurd h (by decide), fun _ => ?_⟩
        conv => whnf
        refine ⟨fun h => absurd h (by decide), fun _ => ?_⟩
        conv => whnf
        refine ⟨fun h => absurd rfl (bne_t h), fun _ => ?_⟩
        conv => whnf
        refine ⟨fun h => absurd rfl (bne_t h), fun _ => ?_⟩
        conv => whnf
        refine Or.inl ?_
        conv => whnf
        refine ⟨_root_.Fin (k + 1), fun ⟨i, _⟩ => ⟨[(8, .o (.c (.vec 0 l.length))), (80, .o (.c (.vec 1 k))), (81, .o (.c (.val (.int .i64 k)))), (82, .o (.c (.val (.int .i64 i))))], [.vec true 35 encSeen [] 6 whole, .vec true 35 encSeen [] 6 (whole.take k)]⟩, fun i => k - i.1, ⟨⟨0, by omega⟩, [1, 3], ⟨rfl, ⟨rfl, rfl, rfl, rfl, trivial⟩, rfl⟩, rfl, rfl, rfl, rfl, trivial⟩, fun ⟨i, hi⟩ => ?_⟩
        conv => whnf
        refine ⟨fun h3 => ?_, fun h3 => ?_⟩
        · have h3 : i < k := lt_t h3
          obtain ⟨x, hx⟩ : ∃ x, whole[i]? = some x := ⟨_, List.getElem?_eq_getElem (by omega)⟩
          have hx' : (whole.take k)[i]? = some x := by rw [List.getElem?_take, if_pos h3, hx]
          conv => whnf
          refine Or.inl ?_
          conv => whnf
          refine ⟨by omega, ?_⟩
          conv => whnf
          refine ⟨x, hx', ?_⟩
          conv => whnf
          refine ⟨by omega, ?_⟩
          conv => whnf
          refine ⟨x, hx, ?_⟩
          conv => whnf
          refine CallsA.lift (H0 := []) [] rfl trivial rfl (alikeW w0 x) ?_
          rintro _ _ ⟨rfl, rfl⟩
          conv => whnf
          refine ⟨trivial, ?_⟩
          conv => whnf
          refine ⟨(fun h => by cases h), fun _ => ?_⟩
          conv => whnf
          refine ⟨⟨i + 1, by omega⟩, ⟨[0, 1], ⟨rfl, ⟨rfl, rfl, rfl, rfl, trivial⟩, rfl⟩, rfl, rfl, rfl, eq_i64 ?_, trivial⟩, ?_⟩
          · rw [nadd, nwrapi (by omega)]
          · show k - (i + 1) < k - i
            omega
        · conv => whnf
          refine CallsA.lift (H0 := []) [] rfl trivial rfl (aliveW w0) ?_
          rintro _ _ ⟨rfl, rfl⟩
          conv => whnf
          exact Or.inl rfl
end Go.Proofs.Ytkomikpfnogjcaa
