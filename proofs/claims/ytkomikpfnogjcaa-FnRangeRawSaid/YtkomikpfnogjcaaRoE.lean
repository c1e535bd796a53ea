/- The reference's writer begins with empty slices; what can be written. -/
import Derived.Test.YtkomikpfnogjcaaRoD
import Derived.Test.YtkomikpfnogjcaaRmL
namespace Go.Proofs.Ytkomikpfnogjcaa
open Go Go.Vc
open Go.RowKit (Below)
set_option maxRecDepth 100000
set_option linter.unusedSimpArgs false

/-- A slice that is nil may be taken for one over an empty block. -/
theorem nil2 {P : Program} {w0 : World} {f : FuncId} {args : List A1} {T Tb : TypeId} {cs : List CV} {α : Type} {en : Enc α} {R : AV → List Blk → Prop} (hen : ∀ x, (en.f [] x).length = 1) (h : CallsA P w0 f args [.cells T (.vec 1 0 :: .vec 2 0 :: cs), .vec true Tb en [] 1 [], .vec true Tb en [] 1 []] R) :
    CallsA P w0 f args [.cells T (.val (.slice none 0 0) :: .val (.slice none 0 0) :: cs)] R := by
  refine ⟨h.cal, fun ρ w vs hRH hA => ?_⟩
  obtain ⟨x, rfl⟩ : ∃ x, ρ = [x] := by
    have := hRH.len
    match ρ, this with
    | [x], _ => exact ⟨x, rfl⟩
  have h0 := hRH.ok 0 _ x rfl rfl
  have hok : Blk.ok ([x] ++ [(none, 0), (none, 0)]) x w (.cells T (.vec 1 0 :: .vec 2 0 :: cs)) := by
    obtain ⟨g, arr, e1, e2, e3⟩ := h0
    refine ⟨g, arr, e1, e2, ?_⟩
    generalize arr.toList = l at e3
    cases e3 with
    | cons a r =>
      cases r with
      | cons b r =>
        obtain ⟨rfl, _⟩ := a
        obtain ⟨rfl, _⟩ := b
        refine .cons ⟨(none, 0), rfl, .inr ⟨rfl, rfl, rfl⟩⟩ (.cons ⟨(none, 0), rfl, .inr ⟨rfl, rfl, rfl⟩⟩ ?_)
        exact r.mono fun _ _ h => h.more _
  have hat : ∀ b g, Ren.at ([x] ++ [(none, 0), (none, 0)]) b = some g → b = 0 ∧ x.1 = some g := by
    intro b g hb
    match b with
    | 0 => exact ⟨rfl, hb⟩
    | 1 => cases hb
    | 2 => cases hb
    | b + 3 => cases hb
  have himg : image ([x] ++ [(none, 0), (none, 0)]) [.cells T (.vec 1 0 :: .vec 2 0 :: cs), .vec true Tb en [] 1 [], .vec true Tb en [] 1 []] = image [x] [.cells T (.val (.slice none 0 0) :: .val (.slice none 0 0) :: cs)] := by
    funext g
    apply propext
    constructor
    · rintro ⟨b, k, _, _, hb⟩
      obtain ⟨rfl, hx⟩ := hat b g hb
      exact ⟨0, _, rfl, rfl, hx⟩
    · rintro ⟨b, k, hk, _, hb⟩
      match b with
      | 0 => exact ⟨0, _, rfl, rfl, hb⟩
      | b + 1 => cases hk
  have hRH2 : RH w0 ([x] ++ [(none, 0), (none, 0)]) [.cells T (.vec 1 0 :: .vec 2 0 :: cs), .vec true Tb en [] 1 [], .vec true Tb en [] 1 []] w := by
    refine ⟨rfl, fun b k e hk he => ?_, fun b b' k k' g _ _ _ _ hb hb' => ?_, fun g hg => hRH.lo g (himg ▸ hg), hRH.base⟩
    · match b with
      | 0 =>
        cases hk
        cases he
        exact hok
      | 1 =>
        cases hk
        cases he
        exact ⟨by omega, hen, .inl ⟨rfl, rfl, rfl⟩⟩
      | 2 =>
        cases hk
        cases he
        exact ⟨by omega, hen, .inl ⟨rfl, rfl, rfl⟩⟩
      | b + 3 => cases hk
    · rw [(hat b g hb).1, (hat b' g hb').1]
  refine (h.out _ w vs hRH2 (hA.mono fun _ _ h => h.more _)).mono fun e w' he => ?_
  obtain ⟨r, H', ρ', v, hR, rfl, hv, hRH', ⟨t, rfl⟩, hfr, hnew⟩ := he
  rw [himg] at hfr hnew
  exact ⟨r, H', _, v, hR, rfl, hv, hRH', ⟨[(none, 0), (none, 0)] ++ t, by simp⟩, hfr, hnew⟩
end Go.Proofs.Ytkomikpfnogjcaa
