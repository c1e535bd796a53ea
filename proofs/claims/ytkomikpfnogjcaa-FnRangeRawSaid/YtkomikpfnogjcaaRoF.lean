/- The reference's checks before it writes. -/
import Derived.Test.YtkomikpfnogjcaaRoE
namespace Go.Proofs.Ytkomikpfnogjcaa
open Go Go.Vc
set_option maxRecDepth 100000
set_option maxHeartbeats 4000000
set_option linter.unusedSimpArgs false

def lowOf (rows : List Nat) (k : Nat) : Nat := if k = 0 then 0 else rows.getD k 0
theorem belowW (w0 : World) {ta : Addr} {c k : Nat} {rows : List Nat} (hk : k < rows.length) (hcell : ∀ (i x : Nat), rows[i]? = some x → x < 4294967296 ∧ w0.cell? (ta.add i) = some (.int .u32 x)) :
    CallsA Try.prog w0 55 [.c (.val (.slice (some ta) rows.length c)), .c (.val (.int .u32 k))] [] fun r H => r = u32 (lowOf rows k) ∧ H = [] := by
  have hg : rows[k]? = some (rows.getD k 0) := by
    rw [List.getD_eq_getElem?_getD, List.getElem?_eq_getElem hk]
    rfl
  have hl : lowOf rows k = if k = 0 then 0 else rows.getD k 0 := rfl
  refine callsA_of_ev c55_ ?_
  conv => whnf
  refine Or.inl ?_
  conv => whnf
  refine ⟨fun h1 => ?_, fun h1 => ?_⟩
  · have h1 : k = 0 := beq_t h1
    rw [hl, if_pos h1]
    conv => whnf
    exact Or.inl ⟨rfl, rfl⟩
  · have h1 : k ≠ 0 := beq_f h1
    rw [hl, if_neg h1]
    conv => whnf
    refine ⟨by omega, ?_⟩
    conv => whnf
    have := (hcell k _ hg).2
    refine ⟨_, by rw [Int.toNat_natCast, Nat.mul_one]; exact this, rfl, ?_⟩
    conv => whnf
    exact Or.inl ⟨rfl, rfl⟩
theorem opFineT (w0 : World) {o : OpV} (h : o.fits w0) (h2 : o.act = 2 → o.a + 1 < o.rows.length ∧ o.rows.length ≤ 65536) : CallsA Try.prog w0 28 [.a o.cells, .c (.val (.bool true))] [] fun r H' => ∃ b : Bool, r = .o (.c (.val (.bool b))) ∧ H' = [] := by
  by_cases ha : o.act = 2
  · obtain ⟨act, oa, ob, oc, ov, otab, rows⟩ := o
    obtain ⟨h5, h6⟩ := h2 ha
    clear h2
    have ht := h.tab
    simp only at ha h5 h6 ht
    subst ha
    rcases ht with ⟨_, hr⟩ | ⟨ta, c, rfl, _, _, hcell⟩
    · rw [hr] at h5
      simp at h5
    have hp := poweredW w0 h
    have hb := belowW w0 (ta := ta) (c := c) (k := oa) (rows := rows) (by omega) hcell
    have hg1 : rows[oa + 1]? = some (rows.getD (oa + 1) 0) := by
      rw [List.getD_eq_getElem?_getD, List.getElem?_eq_getElem h5]
      rfl
    have hc1 := (hcell (oa + 1) _ hg1).2
    have ha1 : IntKind.u32.wrap (((oa : Nat) : Int) + ((1 : Nat) : Int)) = ((oa + 1 : Nat) : Int) := by
      rw [nadd, nwrap32 (by omega)]
    refine callsA_of_ev c28_ ?_
    conv => whnf
    refine Or.inl ?_
    conv => whnf
    refine ⟨(fun h => by cases h), fun _ => ?_⟩
    conv => whnf
    refine ⟨(fun h => by cases h), fun _ => ?_⟩
    conv => whnf
    refine ⟨fun _ => ?_, (fun h => by cases h)⟩
    conv => whnf
    refine CallsA.lift (H0 := []) [] rfl trivial rfl hp ?_
    rintro _ _ ⟨n, rfl, rfl⟩
    conv => whnf
    refine ⟨trivial, ?_⟩
    conv => whnf
    refine ⟨fun _ => ?_, fun _ => ?_⟩
    · conv => whnf
      refine ⟨(fun h => by cases h), fun _ => ?_⟩
      conv => whnf
      rw [ha1, nwrap32 (n := rows.length) (by omega)]
      refine ⟨fun _ => ?_, fun h => absurd (lt_f h) (by omega)⟩
      conv => whnf
      rw [ha1]
      refine ⟨⟨by omega, by omega⟩, ?_⟩
      conv => whnf
      refine ⟨_, by rw [Int.toNat_natCast, Nat.mul_one]; exact hc1, rfl, ?_⟩
      conv => whnf
      refine CallsA.lift (H0 := []) [] rfl trivial rfl hb ?_
      rintro _ _ ⟨rfl, rfl⟩
      conv => whnf
      repeat' (first
        | (refine ⟨⟨trivial, trivial, trivial, trivial⟩, ?_⟩; (conv => whnf))
        | (refine ⟨⟨trivial, ⟨rfl, rfl⟩, ⟨rfl, rfl⟩, trivial⟩, ?_⟩; (conv => whnf))
        | (refine ⟨⟨⟨rfl, rfl⟩, ⟨rfl, rfl⟩, ⟨rfl, rfl⟩, trivial⟩, ?_⟩; (conv => whnf))
        | (refine ⟨trivial, ?_⟩; (conv => whnf))
        | exact Or.inr ⟨[], .o (.c (.val (.bool _))), [], ⟨rfl, trivial, rfl⟩, rfl, _, rfl, rfl⟩
        | (refine ⟨fun _ => ?_, fun _ => ?_⟩ <;> (conv => whnf)))
    · conv => whnf
      repeat' (first
        | (refine ⟨⟨trivial, trivial, trivial, trivial⟩, ?_⟩; (conv => whnf))
        | (refine ⟨trivial, ?_⟩; (conv => whnf))
        | exact Or.inr ⟨[], .o (.c (.val (.bool _))), [], ⟨rfl, trivial, rfl⟩, rfl, _, rfl, rfl⟩
        | (refine ⟨fun _ => ?_, fun _ => ?_⟩ <;> (conv => whnf)))
  · obtain ⟨act, oa, ob, oc, ov, otab, rows⟩ := o
    simp only at ha
    refine callsA_of_ev c28_ ?_
    conv => whnf
    refine Or.inl ?_
    conv => whnf
    repeat' (first
      | (refine ⟨⟨trivial, trivial, trivial, trivial⟩, ?_⟩; (conv => whnf))
      | (refine ⟨trivial, ?_⟩; (conv => whnf))
      | (refine ⟨by omega, ?_⟩; (conv => whnf))
      | (refine ⟨fun h => absurd h (by decide), fun _ => ?_⟩; (conv => whnf))
      | (refine ⟨fun _ => ?_, fun h => absurd h (by decide)⟩; (conv => whnf))
      | exact Or.inr ⟨[], .o (.c (.val (.bool _))), [], ⟨rfl, trivial, rfl⟩, rfl, _, rfl, rfl⟩
      | (refine ⟨fun h => absurd (by simpa using h) ha, fun _ => ?_⟩; (conv => whnf))
      | (refine ⟨fun _ => ?_, fun _ => ?_⟩ <;> (conv => whnf)))
end Go.Proofs.Ytkomikpfnogjcaa
