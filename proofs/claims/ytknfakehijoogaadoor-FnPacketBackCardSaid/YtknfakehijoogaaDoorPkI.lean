/- The reference takes a packet apart. -/
import Derived.Test.YtknfakehijoogaaDoorPkH
namespace Go.Proofs.YtknfakehijoogaaDoor
open Go Go.Vc
set_option maxRecDepth 100000
set_option maxHeartbeats 8000000

theorem str_t {a b : ByteArray} (h : (a.toList == b.toList) = true) : a = b := by
  have h := eq_of_beq h
  rw [ByteArray.toList_eq, ByteArray.toList_eq] at h
  exact ByteArray.ext (Array.ext' h)
theorem str_f {a b : ByteArray} (h : (a.toList == b.toList) = false) : a ≠ b := by
  rintro rfl
  rw [beq_self_eq_true] at h
  cases h
theorem emp_t {a : ByteArray} (h : (a.toList == (ByteArray.mk #[]).toList) = true) : a.size = 0 := by
  rw [str_t h]
  rfl
theorem emp_f {a : ByteArray} (h : (a.toList == (ByteArray.mk #[]).toList) = false) : a.size ≠ 0 := by
  intro h0
  exact str_f h (ByteArray.ext (Array.eq_empty_of_size_eq_zero h0))

theorem lengthReadW (w0 : World) {b : ByteArray} {p e : Nat} (hp : p ≤ e) (hb : e ≤ b.size) (hs : b.size ≤ 100000) :
    CallsA Tryd.prog w0 20 [.c (.val (.string (sub b p e)))] [] fun r H =>
      H = [] ∧ r = match flen b e p with
        | none => .t [.c (.val (.int .i64 ((0 : Nat) : Int))), .c (.val (.string (ByteArray.mk #[]))), .c (.val (.bool false))]
        | some (n, k) => .t [.c (.val (.int .i64 (n : Nat))), .c (.val (.string (sub b (p + k) e))), .c (.val (.bool true))] := by
  have hsz := sub_size (p := p) hb
  have hs1 := fun i (h : p + i < e) => sub_str hb h
  have hss := fun i (h : p + i ≤ e) => sub_sub (j := e - p) (i := i) hb (show p + (e - p) ≤ e by omega)
  have hlt := byt_lt b p
  have hlt1 := byt_lt b (p + 1)
  obtain ⟨t, ht⟩ : ∃ t, t = sub b p e := ⟨_, rfl⟩
  rw [← ht] at hsz hs1 hss ⊢
  rw [show p + (e - p) = e by omega] at hss
  obtain ⟨F, hF⟩ : ∃ F, F = flen b e p := ⟨_, rfl⟩
  rw [← hF]
  unfold flen at hF
  refine callsA_of_ev c20_ ?_
  conv => whnf
  refine Or.inl ?_
  conv => whnf
  refine ⟨fun h1 => ?_, fun h1 => ?_⟩
  · have h1 := emp_t h1
    rw [if_pos (by omega)] at hF
    subst hF
    conv => whnf
    exact Or.inl ⟨rfl, rfl⟩
  have h1 := emp_f h1
  rw [if_neg (by omega)] at hF
  conv => whnf
  refine Or.inl ?_
  conv => whnf
  obtain ⟨y, hy, hyb⟩ := hs1 0 (by omega)
  refine ⟨y, hy, ?_⟩
  conv => whnf
  refine ⟨fun h2 => ?_, fun h2 => ?_⟩
  · have h2 : byt b p < 252 := by have h2 := lt_t h2; rw [hyb] at h2; exact h2
    rw [if_pos h2] at hF
    subst hF
    conv => whnf
    refine ⟨y, hy, ?_⟩
    conv => whnf
    refine ⟨by omega, ?_⟩
    conv => whnf
    rw [hyb]
    refine Or.inl ⟨rfl, ?_⟩
    show AV.t [.c (.val (.int .i64 (IntKind.i64.wrap (byt b p : Nat)))), .c (.val (.string (t.extract 1 t.size))), .c (.val (.bool true))] = AV.t [.c (.val (.int .i64 (byt b p : Nat))), .c (.val (.string (sub b (p + 1) e))), .c (.val (.bool true))]
    rw [nwrapi (by omega), hsz, hss 1 (by omega)]
  have h2 : 252 ≤ byt b p := by have h2 := lt_f h2; rw [hyb] at h2; exact h2
  rw [if_neg (by omega)] at hF
  conv => whnf
  refine Or.inl ?_
  conv => whnf
  refine ⟨fun h3 => ?_, fun h3 => ?_⟩
  · have h3 : t.size < 2 := lt_t h3
    rw [if_pos (by omega)] at hF
    subst hF
    conv => whnf
    exact Or.inl ⟨rfl, rfl⟩
  have h3 : 2 ≤ t.size := lt_f h3
  rw [if_neg (by omega)] at hF
  subst hF
  obtain ⟨z, hz, hzb⟩ := hs1 1 (by omega)
  conv => whnf
  refine ⟨z, hz, ?_⟩
  conv => whnf
  refine ⟨y, hy, ?_⟩
  conv => whnf
  refine ⟨by omega, ?_⟩
  conv => whnf
  rw [hyb, hzb]
  refine Or.inl ⟨rfl, ?_⟩
  show AV.t [.c (.val (.int .i64 (IntKind.i64.wrap (IntKind.i64.wrap (IntKind.i64.wrap (byt b (p + 1) : Nat) * ((4 : Nat) : Int)) + IntKind.i64.wrap (byt b p : Nat))))), .c (.val (.string (t.extract 2 t.size))), .c (.val (.bool true))] = AV.t [.c (.val (.int .i64 ((byt b p + 4 * byt b (p + 1) : Nat) : Int))), .c (.val (.string (sub b (p + 2) e))), .c (.val (.bool true))]
  rw [nwrapi (n := byt b (p + 1)) (by omega), nwrapi (n := byt b p) (by omega), nmul, nwrapi (by omega), nadd, nwrapi (by omega), hsz, hss 2 (by omega), show byt b (p + 1) * 4 + byt b p = byt b p + 4 * byt b (p + 1) by omega]
end Go.Proofs.YtknfakehijoogaaDoor
