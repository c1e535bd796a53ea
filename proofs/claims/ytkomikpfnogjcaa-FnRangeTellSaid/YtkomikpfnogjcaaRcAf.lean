/- The number of bits that are used never falls: the law's walk. -/
import Derived.Test.YtkomikpfnogjcaaRcAe
namespace Go.Proofs.Ytkomikpfnogjcaa
open Go Go.Vc
set_option maxRecDepth 100000
set_option maxHeartbeats 4000000

theorem tells_drop {whole : List SeenV} {i t f : Nat} (h : i < whole.length) (ht : Tells t f (whole.drop i)) : ∃ s, whole[i]? = some s ∧ t ≤ s.tell ∧ f ≤ s.frac ∧ s.tell = (s.frac + 7) / 8 ∧ s.frac ≤ 800000 ∧ Tells s.tell s.frac (whole.drop (i + 1)) := by
  rw [List.drop_eq_getElem_cons h] at ht
  cases ht with
  | cons a b c d e => exact ⟨_, List.getElem?_eq_getElem h, a, b, c, d, e⟩
theorem tellW (w0 : World) {b : ByteArray} {v : Value} {l : List OpV} (hv : opsAt w0 v l) (hl : l.length ≤ 9223372036854775807) : CallsA Try.prog w0 8 [.c (.val (.string b)), .c (.val v)] [] fun r _ => r = .o (.c (.val (.bool true))) := by
  refine callsA_of_ev c8_ ?_
  conv => whnf
  refine Or.inl ?_
  conv => whnf
  refine ⟨fun _ => ?_, fun hb => ?_⟩
  · conv => whnf
    exact Or.inl rfl
  have hb : b.size ≤ 2147483647 := gt_f hb
  conv => whnf
  refine (zzFits2W w0 hv hl).mono ?_
  rintro _ _ ⟨b1, rfl, rfl, hl2⟩
  conv => whnf
  refine ⟨fun _ => ?_, fun h1 => ?_⟩
  · conv => whnf
    exact Or.inl rfl
  have hl2 : l.length ≤ 2147483647 := hl2 (by cases b1 <;> first | rfl | cases h1)
  conv => whnf
  refine Or.inl ?_
  conv => whnf
  refine ⟨fun _ => ?_, fun hb2 => ?_⟩
  · conv => whnf
    exact Or.inl rfl
  conv => whnf
  refine (readW w0 hv b.size 400 hl).mono ?_
  rintro _ _ ⟨b2, rfl, rfl, hr⟩
  conv => whnf
  refine ⟨fun _ => ?_, fun h2 => ?_⟩
  · conv => whnf
    exact Or.inl rfl
  obtain ⟨hl4, hr⟩ := hr (by cases b2 <;> first | rfl | cases h2)
  have hg : ∀ o ∈ l, o.good w0 ∧ o.tab.oneCell' = true := fun o ho => ⟨(hr o ho).good (hv.fits o ho), (hv.fits o ho).one⟩
  have hbb : b.size ≤ 2000 := gt_f hb2
  conv => whnf
  refine (opsV w0 hv (by omega)).mono ?_
  rintro _ _ (⟨rfl, rfl, rfl⟩ | ⟨hne, rfl, rfl⟩)
  · conv => whnf
    refine (decodeW0 w0 (b := b) (by omega)).mono ?_
    rintro _ _ ⟨rfl, rfl⟩
    conv => whnf
    refine Or.inl ?_
    conv => whnf
    refine ⟨fun h => absurd h (by decide), fun _ => ?_⟩
    conv => whnf
    refine Or.inl ?_
    conv => whnf
    refine ⟨Unit, fun _ => ⟨[(7, .o (.c (.val (.int .u32 ((1 : Nat) : Int))))), (8, .o (.c (.val (.int .u32 ((0 : Nat) : Int))))), (40, .o (.c (.val (.slice none 0 0)))), (41, .o (.c (.val (.int .i64 ((0 : Nat) : Int))))), (42, .o (.c (.val (.int .i64 ((0 : Nat) : Int)))))], []⟩, fun _ => 0, ⟨(), [], ⟨rfl, trivial, rfl⟩, rfl, rfl, rfl, rfl, rfl, trivial⟩, fun _ => ?_⟩
    conv => whnf
    refine ⟨fun h => absurd (lt_t h) (by omega), fun _ => ?_⟩
    conv => whnf
    refine (aliveW w0).mono ?_
    rintro _ _ ⟨rfl, rfl⟩
    conv => whnf
    exact Or.inl rfl
  · conv => whnf
    refine (decodeW w0 (b := b) (l := l) (by omega) hne (by omega) hg).mono ?_
    rintro _ _ ⟨rfl, rfl⟩
    have hwl := (Dec.init (bytesOf b)).seen_len l
    have htells : Tells 1 0 ((Dec.init (bytesOf b)).seen l) := by
      have hbl := bytesOf_len b
      obtain ⟨i1, i2, i3⟩ := Dec.init_inv (bytesOf_lt b) (by omega)
      have i4 := Dec.init_lf (bytesOf b)
      exact Dec.seen_tells (w0 := w0) i1 (by omega) (fun o ho => (hg o ho).1) i4 (by omega) (by omega)
    generalize (Dec.init (bytesOf b)).seen l = whole at *
    conv => whnf
    refine Or.inl ?_
    conv => whnf
    refine ⟨fun h => absurd h (by decide), fun _ => ?_⟩
    conv => whnf
    refine Or.inl ?_
    conv => whnf
    refine ⟨{p : Nat × Nat × Nat // p.1 ≤ l.length ∧ Tells p.2.1 p.2.2 (whole.drop p.1)}, fun ⟨(i, t, f), _⟩ => ⟨[(7, .o (.c (.val (.int .u32 t)))), (8, .o (.c (.val (.int .u32 f)))), (40, .o (.c (.vec 0 l.length))), (41, .o (.c (.val (.int .i64 l.length)))), (42, .o (.c (.val (.int .i64 i))))], [.vec true 35 encSeen [] 6 whole]⟩, fun p => l.length - p.1.1, ⟨⟨(0, 1, 0), Nat.zero_le _, htells⟩, [1], ⟨rfl, ⟨rfl, rfl, trivial⟩, rfl⟩, rfl, rfl, rfl, rfl, rfl, trivial⟩, fun ⟨(i, t, f), hi, hti⟩ => ?_⟩
    simp only at hi hti
    conv => whnf
    refine ⟨fun h3 => ?_, fun h3 => ?_⟩
    · have h3 : i < l.length := lt_t h3
      obtain ⟨s, hs, k1, k2, k3, k4, k5⟩ := tells_drop (by omega) hti
      conv => whnf
      refine Or.inl ?_
      conv => whnf
      refine ⟨by omega, ?_⟩
      conv => whnf
      refine ⟨s, hs, ?_⟩
      conv => whnf
      refine Or.inl ?_
      conv => whnf
      refine ⟨fun h => absurd (lt_t h) (by omega), fun _ => ?_⟩
      conv => whnf
      refine ⟨fun h => absurd (lt_t h) (by omega), fun _ => ?_⟩
      conv => whnf
      simp (disch := omega) only [nadd, nwrap32, ntdiv]
      refine ⟨fun h => absurd k3 (bne_t h), fun _ => ?_⟩
      conv => whnf
      refine ⟨⟨(i + 1, s.tell, s.frac), by show i + 1 ≤ l.length; omega, k5⟩, ⟨[0], ⟨rfl, ⟨rfl, rfl, trivial⟩, rfl⟩, rfl, rfl, rfl, rfl, eq_i64 ?_, trivial⟩, ?_⟩
      · try rw [nadd, nwrapi (by omega)]
      · show l.length - (i + 1) < l.length - i
        omega
    · conv => whnf
      refine CallsA.lift (H0 := []) [] rfl trivial rfl (aliveW w0) ?_
      rintro _ _ ⟨rfl, rfl⟩
      conv => whnf
      exact Or.inl rfl
end Go.Proofs.Ytkomikpfnogjcaa
