/- A script is written as the very bytes that the reference tells: the law's walk. -/
import Derived.Test.YtkomikpfnogjcaaRtD
import Derived.Test.YtkomikpfnogjcaaRqB
namespace Go.Proofs.Ytkomikpfnogjcaa
open Go Go.Vc
set_option maxRecDepth 100000
set_option maxHeartbeats 8000000

theorem done0 : strOf EncS.init.done = ByteArray.mk #[] := by
  rw [show EncS.init.done = [] by decide +kernel]
  rfl
theorem wholeLawW (w0 : World) {v : Value} {l : List OpV} (hv : opsAt w0 v l) (hl : l.length ≤ 9223372036854775807) : CallsA Try.prog w0 9 [.c (.val v)] [] fun r _ => r = .o (.c (.val (.bool true))) := by
  refine callsA_of_ev c9_ ?_
  conv => whnf
  refine Or.inl ?_
  conv => whnf
  refine (zzFits2W w0 hv hl).mono ?_
  rintro _ _ ⟨b1, rfl, rfl, hl2⟩
  conv => whnf
  refine ⟨fun _ => ?_, fun h1 => ?_⟩
  · conv => whnf
    exact Or.inl rfl
  have hl2 : l.length ≤ 2147483647 := hl2 (by cases b1 <;> first | rfl | cases h1)
  conv => whnf
  refine Or.inl ?_
  conv => whnf
  refine (scriptV w0 hv 400 hl).mono ?_
  rintro _ _ ⟨b2, rfl, rfl, hs⟩
  conv => whnf
  refine ⟨fun _ => ?_, fun h2 => ?_⟩
  · conv => whnf
    exact Or.inl rfl
  obtain ⟨hl4, hg⟩ := hs (by cases b2 <;> first | rfl | cases h2)
  have hg : ∀ o ∈ l, o.wr w0 := fun o ho => (hg o ho).1
  conv => whnf
  by_cases hne : l = []
  · subst hne
    refine (sEncode0 w0 hv).mono ?_
    rintro _ _ ⟨rfl, rfl⟩
    conv => whnf
    refine Or.inl ?_
    conv => whnf
    refine ⟨fun h => absurd h (by decide), fun _ => ?_⟩
    conv => whnf
    refine (opsV w0 hv (by decide)).mono ?_
    rintro _ _ (⟨_, rfl, rfl⟩ | ⟨h, _⟩)
    · conv => whnf
      refine (encodeW0 w0).mono ?_
      rintro _ _ ⟨rfl, rfl⟩
      rw [done0]
      rcases hv.cases with ⟨rfl, _⟩ | ⟨a, c, rfl, _⟩
      all_goals
        conv => whnf
        refine Or.inl ?_
        conv => whnf
        refine ⟨fun h => absurd h (by decide), fun _ => ?_⟩
        conv => whnf
        refine ⟨fun h => absurd h (by rw [beq_self_eq_true]; decide), fun _ => ?_⟩
        conv => whnf
        refine ⟨fun h => absurd h (by decide), fun _ => ?_⟩
        conv => whnf
        refine ⟨fun h => absurd h (by decide), fun _ => ?_⟩
        conv => whnf
        refine Or.inl ?_
        conv => whnf
        refine ⟨Unit, fun _ => ⟨[(53, .o (.c (.val (.slice none 0 0)))), (54, .o (.c (.val (.int .i64 ((0 : Nat) : Int))))), (55, .o (.c (.val (.int .i64 ((0 : Nat) : Int)))))], []⟩, fun _ => 0, ⟨(), [], ⟨rfl, trivial, rfl⟩, rfl, rfl, rfl, trivial⟩, fun _ => ?_⟩
        conv => whnf
        refine ⟨fun h => absurd (lt_t h) (by omega), fun _ => ?_⟩
        conv => whnf
        refine CallsA.lift (H0 := []) [] rfl trivial rfl (aliveW w0) ?_
        rintro _ _ ⟨rfl, rfl⟩
        conv => whnf
        exact Or.inl rfl
    · exact absurd rfl h
  · obtain ⟨a, c, rfl⟩ : ∃ a c, v = .slice (some a) l.length c := by
      rcases hv.cases with ⟨_, h⟩ | ⟨a, c, h, _⟩
      · exact absurd h hne
      · exact ⟨a, c, h⟩
    refine (sEncodeW w0 hv (by omega) hne hg).mono ?_
    rintro _ _ (⟨rfl, rfl⟩ | ⟨ss, hw, rfl, rfl⟩)
    · conv => whnf
      refine Or.inl ?_
      conv => whnf
      refine ⟨fun _ => ?_, fun h => absurd h (by decide)⟩
      conv => whnf
      exact Or.inl rfl
    have hmet : ∀ o ∈ l, o.met := fun o ho => hw.met o (by rw [List.take_length]; exact ho)
    obtain ⟨q1, q2⟩ := rafter_after EncS.init_inv hg hmet
    have hsr : ss.map SeenV.rng = (EncS.init.seen l).map SeenV.rng := by rw [hw.rng, List.take_length, q2]
    have hssl := hw.len
    have hdn : (EncS.init.rafter l).rdone = strOf (EncS.init.after l).done := by
      rw [q1]
      exact rdone_done (EncS.after_inv EncS.init_inv fun o ho => (hg o ho).puts)
    rw [hdn]
    conv => whnf
    refine Or.inl ?_
    conv => whnf
    refine ⟨fun h => absurd h (by decide), fun _ => ?_⟩
    conv => whnf
    refine CallsA.lift (H0 := []) [] rfl trivial rfl (opsV w0 hv (by omega)) ?_
    rintro _ _ (⟨h, _⟩ | ⟨_, rfl, rfl⟩)
    · exact absurd h hne
    conv => whnf
    refine CallsA.lift (H0 := [.vec true 80 encOp [] 6 l]) [1] rfl ⟨rfl, rfl, trivial⟩ rfl (encodeN w0 (l := l) rfl hne (by omega) fun o ho => ⟨(hg o ho).puts, (hv.fits o ho).one⟩) ?_
    rintro _ _ ⟨rfl, rfl⟩
    have hsl : (EncS.init.seen l).length = l.length := EncS.seen_len _ _
    generalize EncS.init.seen l = sn at *
    generalize strOf (EncS.init.after l).done = str at *
    conv => whnf
    refine Or.inl ?_
    conv => whnf
    refine ⟨fun h => absurd h (by decide), fun _ => ?_⟩
    conv => whnf
    refine ⟨fun h => absurd h (by rw [beq_self_eq_true]; decide), fun _ => ?_⟩
    conv => whnf
    refine ⟨fun h => absurd rfl (bne_t h), fun _ => ?_⟩
    conv => whnf
    refine ⟨fun h => absurd rfl (bne_t h), fun _ => ?_⟩
    conv => whnf
    refine Or.inl ?_
    conv => whnf
    refine ⟨_root_.Fin (l.length + 1), fun ⟨i, _⟩ => ⟨[(4, .o (.c (.vec 0 l.length))), (53, .o (.c (.vec 1 l.length))), (54, .o (.c (.val (.int .i64 l.length)))), (55, .o (.c (.val (.int .i64 i))))], [seenB ss, seenBlk sn]⟩, fun i => l.length - i.1, ⟨⟨0, by omega⟩, [0, 2], ⟨rfl, ⟨rfl, rfl, rfl, rfl, trivial⟩, rfl⟩, rfl, rfl, rfl, rfl, trivial⟩, fun ⟨i, hi⟩ => ?_⟩
    conv => whnf
    refine ⟨fun h3 => ?_, fun h3 => ?_⟩
    · have h3 : i < l.length := lt_t h3
      obtain ⟨x, hx⟩ : ∃ x, sn[i]? = some x := ⟨_, List.getElem?_eq_getElem (by omega)⟩
      obtain ⟨y, hy⟩ : ∃ y, ss[i]? = some y := ⟨_, List.getElem?_eq_getElem (by omega)⟩
      have hxy : y.rng = x.rng := by
        have h1 : (ss.map SeenV.rng)[i]? = some y.rng := by rw [List.getElem?_map, hy]; rfl
        have h2 : (sn.map SeenV.rng)[i]? = some x.rng := by rw [List.getElem?_map, hx]; rfl
        rw [hsr, h2] at h1
        exact (Option.some.inj h1).symm
      conv => whnf
      refine Or.inl ?_
      conv => whnf
      refine ⟨by omega, ?_⟩
      conv => whnf
      refine ⟨x, hx, ?_⟩
      conv => whnf
      refine ⟨by omega, ?_⟩
      conv => whnf
      refine ⟨y, hy, ?_⟩
      conv => whnf
      refine ⟨fun h => absurd hxy.symm (bne_t h), fun _ => ?_⟩
      conv => whnf
      refine ⟨⟨i + 1, by omega⟩, ⟨[0, 1], ⟨rfl, ⟨rfl, rfl, rfl, rfl, trivial⟩, rfl⟩, rfl, rfl, rfl, eq_i64 ?_, trivial⟩, ?_⟩
      · rw [nadd, nwrapi (by omega)]
      · show l.length - (i + 1) < l.length - i
        omega
    · conv => whnf
      refine CallsA.lift (H0 := []) [] rfl trivial rfl (aliveW w0) ?_
      rintro _ _ ⟨rfl, rfl⟩
      conv => whnf
      exact Or.inl rfl
end Go.Proofs.Ytkomikpfnogjcaa
