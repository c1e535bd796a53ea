/- Small pieces of the laws that write. -/
import Derived.Test.YtkomikpfnogjcaaRqA
import Derived.Test.YtkomikpfnogjcaaRoH
namespace Go.Proofs.Ytkomikpfnogjcaa
open Go Go.Vc
open Go.RowKit (Below)
set_option maxRecDepth 100000
set_option maxHeartbeats 4000000
set_option linter.unusedSimpArgs false

/-- A nil slice that is handed on may be taken for one over an empty block. -/
theorem nilArg {P : Program} {w0 : World} {f : FuncId} {T : TypeId} {wd : Nat} {α : Type} {en : Enc α} {R : AV → List Blk → Prop} (hw : 0 < wd) (hen : ∀ x, (en.f [] x).length = wd) (h : CallsA P w0 f [.c (.vec 0 0)] [.vec true T en [] wd []] R) :
    CallsA P w0 f [.c (.val (.slice none 0 0))] [] R := by
  refine ⟨h.cal, fun ρ w vs hRH hA => ?_⟩
  obtain rfl : ρ = [] := List.length_eq_zero_iff.1 hRH.len
  have hat : ∀ b g, Ren.at [(none, 0)] b = some g → False := by
    intro b g hb
    match b with
    | 0 => cases hb
    | b + 1 => cases hb
  have himg : image [(none, 0)] [Blk.vec true T en [] wd []] = image [] [] := by
    funext g
    apply propext
    constructor
    · rintro ⟨b, k, _, _, hb⟩
      exact (hat b g hb).elim
    · rintro ⟨b, k, hk, _, hb⟩
      cases hk
  have hRH2 : RH w0 [(none, 0)] [Blk.vec true T en [] wd []] w := by
    refine ⟨rfl, fun b k e hk he => ?_, fun b b' k k' g _ _ _ _ hb hb' => (hat b g hb).elim, fun g hg => hRH.lo g (himg ▸ hg), hRH.base⟩
    match b with
    | 0 =>
      cases hk
      cases he
      exact ⟨hw, hen, .inl ⟨rfl, rfl, rfl⟩⟩
    | b + 1 => cases hk
  have hA2 : All2 (A1.R [(none, 0)]) [.c (.vec 0 0)] vs := by
    cases hA with
    | cons a r =>
      cases r
      obtain ⟨rfl, _⟩ := a
      exact .cons ⟨(none, 0), rfl, .inr ⟨rfl, rfl, rfl⟩⟩ .nil
  refine (h.out _ w vs hRH2 hA2).mono fun e w' he => ?_
  obtain ⟨r, H', ρ', v, hR, rfl, hv, hRH', ⟨t, rfl⟩, hfr, hnew⟩ := he
  rw [himg] at hfr hnew
  exact ⟨r, H', _, v, hR, rfl, hv, hRH', ⟨_, (List.nil_append _).symm⟩, hfr, hnew⟩
theorem encodeW0 (w0 : World) : CallsA Try.prog w0 20 [.c (.val (.slice none 0 0))] [] fun r H => r = .t [.c (.val (.string (strOf EncS.init.done))), .c (.val (.slice none 0 0)), .c (.val (.int .i64 ((0 : Nat) : Int)))] ∧ H = [.vec true 80 encOp [] 6 []] :=
  nilArg (by decide) (fun _ => rfl) (encodeW w0 (l := []) (by decide) (fun o ho => by cases ho))
theorem encodeN (w0 : World) {l : List OpV} {n : Nat} (hn : l.length = n) (hne : l ≠ []) (hl2 : l.length ≤ 65536) (hg : ∀ o ∈ l, o.puts w0 ∧ o.tab.oneCell' = true) :
    CallsA Try.prog w0 20 [.c (.vec 0 n)] [.vec true 80 encOp [] 6 l] fun r H => r = .t [.c (.val (.string (strOf (EncS.init.after l).done))), .c (.vec 1 n), .c (.val (.int .i64 ((0 : Nat) : Int)))] ∧ H = [.vec true 80 encOp [] 6 l, seenBlk (EncS.init.seen l)] := by
  have h := encodeW w0 hl2 hg
  have h1 := List.length_pos_iff.2 hne
  rw [hn] at h h1
  obtain ⟨k, rfl⟩ : ∃ k, n = k + 1 := ⟨n - 1, by omega⟩
  exact h
theorem opsAt.cases {w0 : World} {v : Value} {l : List OpV} (hv : opsAt w0 v l) : (v = .slice none 0 0 ∧ l = []) ∨ ∃ a c, v = .slice (some a) l.length c ∧ ∀ (i : Nat) (x : OpV), l[i]? = some x → x.lies w0 (a.add (i * 6)) ∧ x.fits w0 := by
  rcases hv with h | ⟨a, c, h, _, _, hb⟩
  · exact .inl h
  · exact .inr ⟨a, c, h, hb⟩
theorem scriptV (w0 : World) {v : Value} {l : List OpV} (hv : opsAt w0 v l) (most : Nat) (hl : l.length ≤ 9223372036854775807) :
    CallsA Try.prog w0 18 [.c (.val v), .c (.val (.int .i64 most))] [] fun r H' => ∃ b : Bool, r = .o (.c (.val (.bool b))) ∧ H' = [] ∧ (b = true → l.length ≤ most ∧ ∀ o ∈ l, o.wr w0 ∧ (o.act = 5 → -60 < o.v ∧ o.v < 60)) := by
  rcases hv.cases with ⟨rfl, rfl⟩ | ⟨a, c, rfl, hb⟩
  · refine callsA_of_ev c18_ ?_
    conv => whnf
    refine Or.inl ?_
    conv => whnf
    refine ⟨Unit, fun _ => ⟨[(0, .o (.c (.val (.slice none 0 0)))), (1, .o (.c (.val (.int .i64 most)))), (7, .o (.c (.val (.slice none 0 0)))), (8, .o (.c (.val (.int .i64 ((0 : Nat) : Int))))), (9, .o (.c (.val (.int .i64 ((0 : Nat) : Int)))))], []⟩, fun _ => 0, ⟨(), [], ⟨rfl, trivial, rfl⟩, rfl, rfl, rfl, rfl, rfl, trivial⟩, fun _ => ?_⟩
    conv => whnf
    refine ⟨fun h => absurd (lt_t h) (by omega), fun _ => ?_⟩
    conv => whnf
    exact Or.inl ⟨_, rfl, rfl, fun _ => ⟨Nat.zero_le _, fun o ho => by cases ho⟩⟩
  · refine (scriptOf w0 (fun o => o.wr w0 ∧ (o.act = 5 → -60 < o.v ∧ o.v < 60)) most hl hb fun o ho => (validG w0 (hv.fits o ho)).mono ?_).mono ?_
    · rintro _ _ ⟨b, rfl, rfl, hq⟩
      refine ⟨b, rfl, rfl, fun e => ?_⟩
      rcases hq e with ⟨h1, h2, h3⟩ | ⟨h1, h2⟩
      · exact ⟨h1, fun _ => ⟨h3, h2⟩⟩
      · exact ⟨h1, fun h => absurd h h2⟩
    · rintro _ _ ⟨b, rfl, rfl, hq⟩
      exact ⟨b, rfl, rfl, hq⟩
theorem sEncode0 (w0 : World) {v : Value} (hv : opsAt w0 v []) : CallsA Try.prog w0 19 [.c (.val v)] [] fun r H =>
    r = .t [.c (.val (.string (ByteArray.mk #[]))), .c (.val (.slice none 0 0)), .c (.val (.int .i64 ((1 : Nat) : Int)))] ∧ H = [] := by
  rcases hv.cases with ⟨rfl, _⟩ | ⟨a, c, rfl, _⟩
  all_goals
    refine callsA_of_ev c19_ ?_
    conv => whnf
    refine Or.inl ?_
    conv => whnf
    refine ⟨fun h => absurd (gt_t h) (by decide), fun _ => ?_⟩
    conv => whnf
    refine Or.inl ?_
    conv => whnf
    refine ⟨Unit, fun _ => wSt _ 0 EncS.init [] 0, fun _ => 0, ⟨(), [0], ⟨rfl, ⟨rfl, rfl, trivial⟩, rfl⟩, rfl, rfl, rfl, rfl, rfl, trivial⟩, fun _ => ?_⟩
    conv => whnf
    refine ⟨fun h => absurd (lt_t h) (by decide), fun _ => ?_⟩
    conv => whnf
    refine CallsA.lift (H0 := []) [] rfl trivial rfl (ilogW w0 (n := 2147483648) (by omega)) ?_
    rintro _ _ ⟨rfl, rfl⟩
    rw [show len 2147483648 = 32 by decide]
    conv => whnf
    refine ⟨by decide, ?_⟩
    conv => whnf
    refine Or.inr ⟨Unit, fun _ => ⟨[(3, .o (.c (.val (.slice none 0 0)))), (5, .o (.c (.ptr 0 0))), (13, .o (.c (.val (.int .i64 ((0 : Nat) : Int))))), (15, .o (.c (.val (.int .u32 ((0 : Nat) : Int)))))], [EncS.init.rnil]⟩, ?_, fun _ => ?_⟩
    · conv => whnf
      refine ⟨fun h => absurd h (by decide +kernel), fun _ => ?_⟩
      conv => whnf
      exact ⟨(), [0], ⟨rfl, ⟨rfl, rfl, trivial⟩, rfl⟩, rfl, rfl, eq_i64 (by decide +kernel), eq_u32 (by decide +kernel), trivial⟩
    conv => whnf
    refine Or.inl ?_
    conv => whnf
    refine ⟨Unit, fun _ => ⟨[(3, .o (.c (.val (.slice none 0 0)))), (5, .o (.c (.ptr 0 0))), (13, .o (.c (.val (.int .i64 ((0 : Nat) : Int))))), (15, .o (.c (.val (.int .u32 ((0 : Nat) : Int)))))], [EncS.init.rnil]⟩, fun _ => 0, ⟨(), [0], ⟨rfl, ⟨rfl, rfl, trivial⟩, rfl⟩, rfl, rfl, rfl, rfl, trivial⟩, fun _ => ?_⟩
    conv => whnf
    refine ⟨fun h => absurd (gt_t h) (by omega), fun _ => ?_⟩
    conv => whnf
    refine Or.inl ?_
    conv => whnf
    refine ⟨fun h => absurd h (by decide), fun _ => ?_⟩
    conv => whnf
    refine ⟨fun h => absurd h (by decide), fun _ => ?_⟩
    conv => whnf
    refine Or.inl ?_
    conv => whnf
    refine ⟨fun h => absurd h (by decide), fun _ => ?_⟩
    conv => whnf
    refine ⟨trivial, [], rfl, ?_⟩
    conv => whnf
    refine Or.inl ?_
    conv => whnf
    refine ⟨Unit, fun _ => ⟨[(3, .o (.c (.val (.slice none 0 0)))), (17, .o (.c (.val (.string (ByteArray.mk #[]))))), (18, .o (.c (.val (.int .i64 (-1)))))], [EncS.init.rnil]⟩, fun _ => 0, ⟨(), [0], ⟨rfl, ⟨rfl, rfl, trivial⟩, rfl⟩, rfl, rfl, eq_i64 (by decide +kernel), trivial⟩, fun _ => ?_⟩
    conv => whnf
    refine ⟨fun h => absurd h (by decide), fun _ => ?_⟩
    conv => whnf
    exact Or.inr ⟨[], .t [.c (.val (.string (ByteArray.mk #[]))), .c (.val (.slice none 0 0)), .c (.val (.int .i64 ((1 : Nat) : Int)))], [], ⟨rfl, trivial, rfl⟩, rfl, rfl, rfl⟩
end Go.Proofs.Ytkomikpfnogjcaa
