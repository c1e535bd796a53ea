/- Which operations the laws let in: symbols by a table. -/
import Derived.Test.YtkomikpfnogjcaaRpC
namespace Go.Proofs.Ytkomikpfnogjcaa
open Go Go.Vc
set_option maxRecDepth 100000
set_option maxHeartbeats 4000000

theorem valid2 (w0 : World) {o : OpV} (h : o.fits w0) (hk : o.act = 2) : ValidOf w0 o ((∃ total rest, TabFine o.rows total rest) ∧ o.a + 1 < o.rows.length ∧ lowOf o.rows o.a < o.rows.getD (o.a + 1) 0) := by
  have ha := h.a32
  have ht := h.tab
  have htw := tabledW w0 h
  have hbw : ∀ ta c, o.tab = .slice (some ta) o.rows.length c → o.a + 1 < o.rows.length → o.rows.length ≤ 65536 → (∀ (i x : Nat), o.rows[i]? = some x → x < 4294967296 ∧ w0.cell? (ta.add i) = some (.int .u32 x)) → _ := fun ta c h1 h2 h3 h4 => boundsW w0 (o := o) (ta := ta) (c := c) h1 h2 h3 h4
  obtain ⟨act, oa, ob, oc, ov, otab, rows⟩ := o
  simp only at hk ha ht
  subst hk
  refine callsA_of_ev c52_ ?_
  conv => whnf
  refine Or.inl ?_
  conv => whnf
  refine ⟨(fun h => by cases h), fun _ => ?_⟩
  conv => whnf
  refine ⟨(fun h => by cases h), fun _ => ?_⟩
  conv => whnf
  refine ⟨fun _ => ?_, (fun h => by cases h)⟩
  conv => whnf
  refine Or.inl ?_
  conv => whnf
  refine CallsA.lift (H0 := []) [] rfl trivial rfl htw ?_
  rintro _ _ ⟨b, rfl, rfl, hb⟩
  conv => whnf
  refine ⟨fun _ => ?_, fun h4 => ?_⟩
  · conv => whnf
    exact Or.inr ⟨[], .o (.c (.val (.bool false))), [], ⟨rfl, trivial, rfl⟩, rfl, false, rfl, rfl, (fun h => by cases h)⟩
  · obtain ⟨total, rest, hf⟩ := hb (by cases b <;> first | rfl | cases h4)
    have hcons := hf.cons
    have hlen63 := hf.len
    simp only at hcons
    have hrl : rows.length = rest.length + 1 := by rw [hcons, List.length_cons]
    rcases ht with ⟨_, hr0⟩ | ⟨ta, c, rfl, _, _, hcell⟩
    · rw [hr0] at hcons
      cases hcons
    conv => whnf
    rw [nwrapi (n := oa) (by omega), nsub (a := rows.length) (b := 1) (by omega), nwrapi (n := rows.length - 1) (by omega)]
    refine ⟨fun h5 => ?_, fun h5 => ?_⟩
    · conv => whnf
      exact Or.inr ⟨[], .o (.c (.val (.bool false))), [], ⟨rfl, trivial, rfl⟩, rfl, false, rfl, rfl, (fun h => by cases h)⟩
    · have h5 : oa < rows.length - 1 := ge_f h5
      have hb2 := hbw ta c rfl (by show oa + 1 < rows.length; omega) (by show rows.length ≤ 65536; omega) hcell
      conv => whnf
      refine CallsA.lift (H0 := []) [] rfl trivial rfl hb2 ?_
      rintro _ _ ⟨rfl, rfl⟩
      conv => whnf
      exact Or.inr ⟨[], .o (.c (.val (.bool _))), [], ⟨rfl, trivial, rfl⟩, rfl, _, rfl, rfl, fun h6 => ⟨⟨total, rest, hf⟩, by show oa + 1 < rows.length; omega, lt_t h6⟩⟩
end Go.Proofs.Ytkomikpfnogjcaa
