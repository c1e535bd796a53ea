/- The laws that read again what was written: small pieces of their walks. -/
import Derived.Test.YtkomikpfnogjcaaRsH
import Derived.Test.YtkomikpfnogjcaaRqB
import Derived.Test.YtkomikpfnogjcaaRmD
namespace Go.Proofs.Ytkomikpfnogjcaa
open Go Go.Vc
set_option maxRecDepth 100000
set_option maxHeartbeats 8000000

theorem done0' : strOf EncS.init.done = ByteArray.mk #[] := by
  rw [show EncS.init.done = [] by decide +kernel]
  rfl

theorem meantW (w0 : World) {o : OpV} (ha : o.a < 4294967296) (hb : o.b < 4294967296) : CallsA Try.prog w0 21 [.a o.cells] [] fun r H' => r = .o (.c (.val (.int .i64 o.means))) ∧ H' = [] := by
  obtain ⟨act, oa, ob, oc, ov, otab, rows⟩ := o
  simp only at ha hb
  have hm : OpV.means ⟨act, oa, ob, oc, ov, otab, rows⟩ = if act = 1 ∨ act = 3 ∨ act = 4 then (ob : Int) else if act = 5 then ov else (oa : Int) := rfl
  generalize OpV.means ⟨act, oa, ob, oc, ov, otab, rows⟩ = mm at *
  have fin : ∀ x : Int, x = mm → Go.Vc.Fin 0 (fun r H' => r = .o (.c (.val (.int .i64 mm))) ∧ H' = []) (.o (.c (.val (.int .i64 x)))) [.cells 47 (OpV.cells ⟨act, oa, ob, oc, ov, otab, rows⟩)] := by
    rintro _ rfl
    exact Or.inr ⟨[], .o (.c (.val (.int .i64 _))), [], ⟨rfl, trivial, rfl⟩, rfl, rfl, rfl⟩
  refine callsA_of_ev c21_ ?_
  conv => whnf
  refine Or.inl ?_
  conv => whnf
  refine Or.inl ?_
  conv => whnf
  refine ⟨fun c1 => ?_, fun c1 => ?_⟩
  · have c1 : act = 1 := ieq_t c1
    rw [if_pos (.inl c1)] at hm
    conv => whnf
    refine ⟨fun _ => ?_, fun h => absurd c1 (ieq_f h)⟩
    conv => whnf
    exact fin _ ((nwrapi (n := ob) (by omega)).trans hm.symm)
  have c1 : act ≠ 1 := ieq_f c1
  conv => whnf
  refine ⟨fun c2 => ?_, fun c2 => ?_⟩
  · have c2 : act = 3 := ieq_t c2
    rw [if_pos (.inr (.inl c2))] at hm
    conv => whnf
    refine ⟨fun _ => ?_, fun h => absurd c2 (ieq_f h)⟩
    conv => whnf
    exact fin _ ((nwrapi (n := ob) (by omega)).trans hm.symm)
  have c2 : act ≠ 3 := ieq_f c2
  conv => whnf
  refine ⟨fun c3 => ?_, fun c3 => ?_⟩
  · have c3 : act = 4 := ieq_t c3
    rw [if_pos (.inr (.inr c3))] at hm
    conv => whnf
    exact fin _ ((nwrapi (n := ob) (by omega)).trans hm.symm)
  have c3 : act ≠ 4 := ieq_f c3
  rw [if_neg (by omega)] at hm
  conv => whnf
  refine ⟨fun c4 => ?_, fun c4 => ?_⟩
  · have c4 : act = 2 := ieq_t c4
    rw [if_neg (by omega)] at hm
    conv => whnf
    exact fin _ ((nwrapi (n := oa) (by omega)).trans hm.symm)
  have c4 : act ≠ 2 := ieq_f c4
  conv => whnf
  refine ⟨fun c5 => ?_, fun c5 => ?_⟩
  · have c5 : act = 5 := ieq_t c5
    rw [if_pos c5] at hm
    conv => whnf
    exact fin _ hm.symm
  · have c5 : act ≠ 5 := ieq_f c5
    rw [if_neg c5] at hm
    conv => whnf
    exact fin _ ((nwrapi (n := oa) (by omega)).trans hm.symm)

theorem validH (w0 : World) {o : OpV} (h : o.fits w0) : CallsA Try.prog w0 52 [.a o.cells] [] fun r H' => ∃ b : Bool, r = .o (.c (.val (.bool b))) ∧ H' = [] ∧ (b = true → o.wr w0 ∧ o.rd) := by
  by_cases h2 : o.act = 2
  · refine (valid2 w0 h h2).mono ?_
    rintro _ _ ⟨b, rfl, rfl, hq⟩
    refine ⟨b, rfl, rfl, fun e => ?_⟩
    obtain ⟨⟨total, rest, hf⟩, q1, q2⟩ := hq e
    have hrl : o.rows.length = rest.length + 1 := by rw [hf.cons, List.length_cons]
    have hl63 := hf.len
    refine ⟨⟨h.a32, h.b32, h.c32, .inr (.inr (.inl ⟨h2, ?_⟩))⟩, fun _ => ⟨total, rest, hf.cons, hf.ok, hf.rise⟩⟩
    rcases h.tab with ⟨_, hr0⟩ | ⟨ta, c, t1, _, _, t2⟩
    · rw [hr0] at hrl
      cases hrl
    · exact ⟨total, rest, ta, c, hf.cons, hf.ok.lo, hf.t256, by omega, hf.ok.le, by omega, q2, t1, t2⟩
  · refine (validG w0 h).mono ?_
    rintro _ _ ⟨b, rfl, rfl, hq⟩
    refine ⟨b, rfl, rfl, fun e => ?_⟩
    rcases hq e with ⟨h1, _⟩ | ⟨h1, _⟩
    · exact ⟨h1, fun k => absurd k h2⟩
    · exact ⟨h1, fun k => absurd k h2⟩
theorem scriptH (w0 : World) {v : Value} {l : List OpV} (hv : opsAt w0 v l) (most : Nat) (hl : l.length ≤ 9223372036854775807) :
    CallsA Try.prog w0 18 [.c (.val v), .c (.val (.int .i64 most))] [] fun r H' => ∃ b : Bool, r = .o (.c (.val (.bool b))) ∧ H' = [] ∧ (b = true → l.length ≤ most ∧ ∀ o ∈ l, o.wr w0 ∧ o.rd) := by
  rcases hv.cases with ⟨rfl, rfl⟩ | ⟨a, c, rfl, hb⟩
  · refine (scriptV w0 hv most hl).mono ?_
    rintro _ _ ⟨b, rfl, rfl, hq⟩
    exact ⟨b, rfl, rfl, fun e => ⟨(hq e).1, fun o ho => by cases ho⟩⟩
  · exact scriptOf w0 (fun o => o.wr w0 ∧ o.rd) most hl hb fun o ho => validH w0 (hv.fits o ho)
/-- What is read of bytes that were written. -/
theorem decodeS (w0 : World) {l : List OpV} (hne : l ≠ []) (hl : l.length ≤ 1000) (hf : ∀ o ∈ l, o.fine w0) (h1 : ∀ o ∈ l, o.tab.oneCell' = true) :
    CallsA Try.prog w0 14 [.c (.val (.string (strOf (EncS.init.after l).done))), .c (.vec 0 l.length)] [.vec true 80 encOp [] 6 l] fun r H => r = .t [.c (.vec 1 l.length), .c (.val (.int .i64 0))] ∧ ∃ sd : List SeenV, sd.length = l.length ∧ H = [.vec true 80 encOp [] 6 l, .vec true 35 encSeen [] 6 sd] ∧
      ∀ (i : Nat) (o : OpV), l[i]? = some o → ∃ s t : SeenV, sd[i]? = some s ∧ (EncS.init.seen l)[i]? = some t ∧ s.rng = t.rng ∧ s.fine = true ∧ o.back s.value := by
  obtain ⟨hB, hall⟩ := back_all hf
  have hinv := EncS.after_inv (l := l) EncS.init_inv fun o ho => (hf o ho).wr.puts
  have hlen := done_len hinv
  have hs := strOf_size (EncS.init.after l).done
  refine (decodeW w0 (b := strOf (EncS.init.after l).done) (l := l) (by omega) hne (by omega) fun o ho => ⟨(hf o ho).wr.good (hf o ho).rd, h1 o ho⟩).mono ?_
  rintro _ _ ⟨rfl, rfl⟩
  refine ⟨rfl, _, ?_, rfl, ?_⟩
  · exact Dec.seen_len _ _
  · rw [bytes_str hB]
    exact hall
end Go.Proofs.Ytkomikpfnogjcaa
