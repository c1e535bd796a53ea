/- Any script of symbols that is written is read again: the law's walk. -/
import Derived.Test.YtkomikpfnogjcaaRsI
namespace Go.Proofs.Ytkomikpfnogjcaa
open Go Go.Vc
set_option maxRecDepth 100000
set_option maxHeartbeats 8000000

theorem backW (w0 : World) {v : Value} {l : List OpV} (hv : opsAt w0 v l) (hl : l.length ≤ 9223372036854775807) : CallsA Try.prog w0 4 [.c (.val v)] [] fun r _ => r = .o (.c (.val (.bool true))) := by
  refine callsA_of_ev c4_ ?_
  conv => whnf
  refine Or.inl ?_
  conv => whnf
  refine (zzFits2W w0 hv hl).mono ?_
  rintro _ _ ⟨b1, rfl, rfl, hl2⟩
  conv => whnf
  refine ⟨fun _ => ?_, fun h1 => ?_⟩
  · conv => whnf
    exact Or.inl rfl
  have hl2 : l.length ≤ 2147483647 := hl2 (by cases b1 <;> first | rfl | cases h1)
  conv => whnf
  refine Or.inl ?_
  conv => whnf
  refine (scriptH w0 hv 400 hl).mono ?_
  rintro _ _ ⟨b2, rfl, rfl, hs⟩
  conv => whnf
  refine ⟨fun _ => ?_, fun h2 => ?_⟩
  · conv => whnf
    exact Or.inl rfl
  obtain ⟨hl4, hg⟩ := hs (by cases b2 <;> first | rfl | cases h2)
  have hg1 : ∀ o ∈ l, o.wr w0 := fun o ho => (hg o ho).1
  conv => whnf
  refine Or.inl ?_
  conv => whnf
  by_cases hne : l = []
  · subst hne
    refine (sEncode0 w0 hv).mono ?_
    rintro _ _ ⟨rfl, rfl⟩
    conv => whnf
    refine ⟨fun h => absurd h (by decide), fun _ => ?_⟩
    conv => whnf
    refine (opsV w0 hv (by decide)).mono ?_
    rintro _ _ (⟨_, rfl, rfl⟩ | ⟨h, _⟩)
    · conv => whnf
      refine (encodeW0 w0).mono ?_
      rintro _ _ ⟨rfl, rfl⟩
      rw [done0']
      conv => whnf
      refine CallsA.lift (H0 := []) [] rfl trivial rfl (opsV w0 hv (by decide)) ?_
      rintro _ _ (⟨_, rfl, rfl⟩ | ⟨h, _⟩)
      · conv => whnf
        refine CallsA.lift (H0 := []) [] rfl trivial rfl (decodeW0 w0 (b := ByteArray.mk #[]) (by decide)) ?_
        rintro _ _ ⟨rfl, rfl⟩
        rcases hv.cases with ⟨rfl, _⟩ | ⟨a, c, rfl, _⟩
        all_goals
          conv => whnf
          refine Or.inl ?_
          conv => whnf
          refine ⟨fun h => absurd h (by decide), fun _ => ?_⟩
          conv => whnf
          refine ⟨fun h => absurd h (by decide), fun _ => ?_⟩
          conv => whnf
          refine ⟨fun h => absurd h (by decide), fun _ => ?_⟩
          conv => whnf
          refine ⟨fun h => absurd h (by decide), fun _ => ?_⟩
          conv => whnf
          refine Or.inl ?_
          conv => whnf
          refine ⟨Unit, fun _ => ⟨[(62, .o (.c (.val _))), (63, .o (.c (.val (.int .i64 ((0 : Nat) : Int))))), (64, .o (.c (.val (.int .i64 ((0 : Nat) : Int)))))], []⟩, fun _ => 0, ⟨(), [], ⟨rfl, trivial, rfl⟩, rfl, rfl, rfl, trivial⟩, fun _ => ?_⟩
          conv => whnf
          refine ⟨fun h => absurd (lt_t h) (by decide), fun _ => ?_⟩
          conv => whnf
          refine CallsA.lift (H0 := []) [] rfl trivial rfl (aliveW w0) ?_
          rintro _ _ ⟨rfl, rfl⟩
          conv => whnf
          exact Or.inl rfl
      · exact absurd rfl h
    · exact absurd rfl h
  · obtain ⟨a, c, rfl, hbb⟩ : ∃ a c, v = .slice (some a) l.length c ∧ ∀ (i : Nat) (x : OpV), l[i]? = some x → x.lies w0 (a.add (i * 6)) ∧ x.fits w0 := by
      rcases hv.cases with ⟨_, h⟩ | ⟨a, c, h, hb⟩
      · exact absurd h hne
      · exact ⟨a, c, h, hb⟩
    refine (sEncodeW w0 hv (by omega) hne hg1).mono ?_
    rintro _ _ (⟨rfl, rfl⟩ | ⟨ss, hw, rfl, rfl⟩)
    · conv => whnf
      refine ⟨fun _ => ?_, fun h => absurd h (by decide)⟩
      conv => whnf
      exact Or.inl rfl
    have hfine : ∀ o ∈ l, o.fine w0 := fun o ho => ⟨(hg o ho).1, (hg o ho).2, hw.met o (by rw [List.take_length]; exact ho)⟩
    have hone : ∀ o ∈ l, o.tab.oneCell' = true := fun o ho => (hv.fits o ho).one
    generalize (EncS.init.rafter l).rdone = sd0
    conv => whnf
    refine ⟨fun h => absurd h (by decide), fun _ => ?_⟩
    conv => whnf
    refine CallsA.lift (H0 := []) [] rfl trivial rfl (opsV w0 hv (by omega)) ?_
    rintro _ _ (⟨h, _⟩ | ⟨_, rfl, rfl⟩)
    · exact absurd h hne
    conv => whnf
    refine CallsA.lift (H0 := [.vec true 80 encOp [] 6 l]) [1] rfl ⟨rfl, rfl, trivial⟩ rfl (encodeN w0 (l := l) rfl hne (by omega) fun o ho => ⟨(hg1 o ho).puts, hone o ho⟩) ?_
    rintro _ _ ⟨rfl, rfl⟩
    have hdec := decodeS w0 hne (by omega) hfine hone
    have hsl : (EncS.init.seen l).length = l.length := EncS.seen_len _ _
    generalize EncS.init.seen l = sn at *
    generalize strOf (EncS.init.after l).done = str at *
    conv => whnf
    refine CallsA.lift (H0 := []) [] rfl trivial rfl (opsV w0 hv (by omega)) ?_
    rintro _ _ (⟨h, _⟩ | ⟨_, rfl, rfl⟩)
    · exact absurd h hne
    conv => whnf
    refine CallsA.lift (H0 := [.vec true 80 encOp [] 6 l]) [3] rfl ⟨rfl, rfl, trivial⟩ rfl hdec ?_
    rintro _ _ ⟨rfl, sd, hsd, rfl, hall⟩
    conv => whnf
    refine Or.inl ?_
    conv => whnf
    refine ⟨fun h => absurd h (by decide), fun _ => ?_⟩
    conv => whnf
    refine ⟨fun h => absurd h (by decide), fun _ => ?_⟩
    conv => whnf
    refine ⟨fun h => absurd rfl (bne_t h), fun _ => ?_⟩
    conv => whnf
    refine ⟨fun h => absurd rfl (bne_t h), fun _ => ?_⟩
    conv => whnf
    refine Or.inl ?_
    conv => whnf
    refine ⟨_root_.Fin (l.length + 1), fun ⟨i, _⟩ => ⟨[(7, .o (.c (.vec 0 l.length))), (9, .o (.c (.vec 1 l.length))), (62, .o (.c (.val (.slice (some a) l.length c)))), (63, .o (.c (.val (.int .i64 l.length)))), (64, .o (.c (.val (.int .i64 i))))], [seenBlk sn, seenBlk sd]⟩, fun i => l.length - i.1, ⟨⟨0, by omega⟩, [2, 4], ⟨rfl, ⟨rfl, rfl, rfl, rfl, trivial⟩, rfl⟩, rfl, rfl, rfl, rfl, rfl, trivial⟩, fun ⟨i, hi⟩ => ?_⟩
    conv => whnf
    refine ⟨fun h3 => ?_, fun h3 => ?_⟩
    · have h3 : i < l.length := lt_t h3
      obtain ⟨o, ho⟩ : ∃ o, l[i]? = some o := ⟨_, List.getElem?_eq_getElem h3⟩
      obtain ⟨⟨x0, x1, x2, x3, x4, x5, x6⟩, hfit⟩ := hbb i o ho
      obtain ⟨s, t, hs1, ht1, hr, hfi, hbk⟩ := hall i o ho
      have hmw := meantW w0 hfit.a32 hfit.b32
      have h32 := hfit.a32
      have h32b := hfit.b32
      obtain ⟨sv, sf, sr, st, sc, sl⟩ := s
      simp only at hr hfi hbk
      subst hr hfi
      conv => whnf
      refine Or.inl ?_
      conv => whnf
      refine ⟨by omega, ?_⟩
      conv => whnf
      refine ⟨_, x0, rfl, ?_⟩
      conv => whnf
      refine ⟨_, x1, rfl, ?_⟩
      conv => whnf
      refine ⟨_, x2, rfl, ?_⟩
      conv => whnf
      refine ⟨_, x3, rfl, ?_⟩
      conv => whnf
      refine ⟨_, x4, rfl, ?_⟩
      conv => whnf
      refine ⟨_, x5, x6, ?_⟩
      conv => whnf
      refine ⟨by omega, ?_⟩
      conv => whnf
      refine ⟨_, hs1, ?_⟩
      conv => whnf
      refine Or.inl ?_
      conv => whnf
      refine ⟨by omega, ?_⟩
      conv => whnf
      refine ⟨t, ht1, ?_⟩
      conv => whnf
      refine ⟨fun h => absurd rfl (bne_t h), fun _ => ?_⟩
      conv => whnf
      refine ⟨(fun h => by cases (show (!true) = true from h)), fun _ => ?_⟩
      conv => whnf
      refine Or.inl ?_
      conv => whnf
      refine ⟨fun c0 => ?_, fun c0 => ?_⟩
      · have c0 : o.act = 0 := ieq_t c0
        obtain ⟨q1, q2⟩ := hbk.1 c0
        conv => whnf
        refine Or.inl ?_
        conv => whnf
        rw [nwrapi (n := o.a) (by omega)]
        refine ⟨fun h => absurd (of_decide_eq_true h : sv < (o.a : Int)) (by omega), fun _ => ?_⟩
        conv => whnf
        rw [nwrapi (n := o.b) (by omega)]
        refine ⟨fun h => absurd (of_decide_eq_true h : sv ≥ (o.b : Int)) (by omega), fun _ => ?_⟩
        conv => whnf
        refine ⟨⟨i + 1, by omega⟩, ⟨[0, 1], ⟨rfl, ⟨rfl, rfl, rfl, rfl, trivial⟩, rfl⟩, rfl, rfl, rfl, rfl, eq_i64 ?_, trivial⟩, ?_⟩
        · rw [nadd, nwrapi (by omega)]
        · show l.length - (i + 1) < l.length - i
          omega
      · have c0 : o.act ≠ 0 := ieq_f c0
        have q1 := hbk.2 c0
        conv => whnf
        refine CallsA.lift (H0 := []) [] rfl trivial rfl hmw ?_
        rintro _ _ ⟨rfl, rfl⟩
        conv => whnf
        refine ⟨⟨⟨rfl, rfl⟩, trivial⟩, ?_⟩
        conv => whnf
        refine ⟨fun h => ?_, fun _ => ?_⟩
        · have h : (sv != o.means) = true := h
          rw [q1, bne_self_eq_false] at h
          cases h
        conv => whnf
        refine ⟨⟨i + 1, by omega⟩, ⟨[0, 1], ⟨rfl, ⟨rfl, rfl, rfl, rfl, trivial⟩, rfl⟩, rfl, rfl, rfl, rfl, eq_i64 ?_, trivial⟩, ?_⟩
        · rw [nadd, nwrapi (by omega)]
        · show l.length - (i + 1) < l.length - i
          omega
    · conv => whnf
      refine CallsA.lift (H0 := []) [] rfl trivial rfl (aliveW w0) ?_
      rintro _ _ ⟨rfl, rfl⟩
      conv => whnf
      exact Or.inl rfl
end Go.Proofs.Ytkomikpfnogjcaa
