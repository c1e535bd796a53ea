/- The laws' bounds of a symbol by a table. -/
import Derived.Test.YtkomikpfnogjcaaRoG
namespace Go.Proofs.Ytkomikpfnogjcaa
open Go Go.Vc
set_option maxRecDepth 100000
set_option maxHeartbeats 4000000

theorem boundsW (w0 : World) {o : OpV} {ta : Addr} {c : Nat} (htab : o.tab = .slice (some ta) o.rows.length c) (hk : o.a + 1 < o.rows.length) (hlen : o.rows.length ≤ 65536) (hcell : ∀ (i x : Nat), o.rows[i]? = some x → x < 4294967296 ∧ w0.cell? (ta.add i) = some (.int .u32 x)) :
    CallsA Try.prog w0 22 [.a o.cells] [] fun r H => r = .t [.c (.val (.int .u32 (lowOf o.rows o.a))), .c (.val (.int .u32 (o.rows.getD (o.a + 1) 0)))] ∧ H = [] := by
  obtain ⟨act, oa, ob, oc, ov, otab, rows⟩ := o
  simp only at htab hk hlen hcell
  subst htab
  have hget : ∀ i, i < rows.length → rows[i]? = some (rows.getD i 0) := by
    intro i hi
    rw [List.getD_eq_getElem?_getD, List.getElem?_eq_getElem hi]
    rfl
  have hc1 := (hcell (oa + 1) _ (hget _ hk)).2
  have hc0 := (hcell oa _ (hget _ (by omega))).2
  have ha1 : IntKind.u32.wrap (((oa : Nat) : Int) + ((1 : Nat) : Int)) = ((oa + 1 : Nat) : Int) := by rw [nadd, nwrap32 (by omega)]
  have hl : lowOf rows oa = if oa = 0 then 0 else rows.getD oa 0 := rfl
  show CallsA Try.prog w0 22 _ [] fun r H => r = .t [.c (.val (.int .u32 (lowOf rows oa))), .c (.val (.int .u32 (rows.getD (oa + 1) 0)))] ∧ H = []
  generalize lowOf rows oa = lo at *
  refine callsA_of_ev c22_ ?_
  conv => whnf
  refine Or.inl ?_
  conv => whnf
  refine ⟨fun h1 => ?_, fun h1 => ?_⟩
  · have h1 : 0 < oa := gt_t h1
    rw [if_neg (by omega)] at hl
    subst hl
    conv => whnf
    refine ⟨⟨by omega, by show ((oa : Nat) : Int) < (rows.length : Int); omega⟩, ?_⟩
    conv => whnf
    refine ⟨_, by rw [Int.toNat_natCast, Nat.mul_one]; exact hc0, rfl, ?_⟩
    conv => whnf
    rw [ha1]
    refine ⟨⟨by omega, by omega⟩, ?_⟩
    conv => whnf
    refine ⟨_, by rw [Int.toNat_natCast, Nat.mul_one]; exact hc1, rfl, ?_⟩
    conv => whnf
    exact Or.inr ⟨[], .t [.c (.val (.int .u32 _)), .c (.val (.int .u32 _))], [], ⟨rfl, trivial, rfl⟩, rfl, rfl, rfl⟩
  · have h1 : oa ≤ 0 := gt_f h1
    rw [if_pos (by omega)] at hl
    subst hl
    conv => whnf
    rw [ha1]
    refine ⟨⟨by omega, by omega⟩, ?_⟩
    conv => whnf
    refine ⟨_, by rw [Int.toNat_natCast, Nat.mul_one]; exact hc1, rfl, ?_⟩
    conv => whnf
    exact Or.inr ⟨[], .t [.c (.val (.int .u32 ((0 : Nat) : Int))), .c (.val (.int .u32 _))], [], ⟨rfl, trivial, rfl⟩, rfl, rfl, rfl⟩
end Go.Proofs.Ytkomikpfnogjcaa
