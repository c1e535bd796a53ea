/- Operations that came in, opened: what lies in memory. -/
import Derived.Test.YtkomikpfnogjcaaRmD
import Derived.ProofKit
namespace Go.Proofs.Ytkomikpfnogjcaa
open Go Go.Vc Go.Deep
set_option maxRecDepth 100000

theorem wf_u32' {n : Int} (h : (Lit.int .u32 n).wf = true) : ∃ m : Nat, n = m ∧ m < 4294967296 := by
  simp only [Lit.wf, Bool.and_eq_true, decide_eq_true_eq] at h
  have h1 : 0 ≤ n := h.1
  have h2 : n ≤ 4294967295 := h.2
  exact ⟨n.toNat, by omega, by omega⟩
theorem wf_i64' {n : Int} (h : (Lit.int .i64 n).wf = true) : -9223372036854775808 ≤ n ∧ n < 9223372036854775808 := by
  simp only [Lit.wf, Bool.and_eq_true, decide_eq_true_eq] at h
  have h1 : -9223372036854775808 ≤ n := h.1
  have h2 : n ≤ 9223372036854775807 := h.2
  omega
theorem list6 {α : Type} {l : List α} (h : l.length = 6) : ∃ a b c d e f, l = [a, b, c, d, e, f] := by
  match l, h with
  | [a, b, c, d, e, f], _ => exact ⟨a, b, c, d, e, f, rfl⟩

variable {H : Type} {enc : TypeId × Value → H} {w : World} {base : Nat} {spare : Nat → Bool} {held : Bool}
theorem opened_op {n : Nat} {cs : List Value} {x : DataW H × List MemPlace} (h : DataW.trod enc Try.prog w base spare held n 47 cs = some x) :
    ∃ o : OpV, o.fits w ∧ cs = [.int .i64 o.act, .int .u32 o.a, .int .u32 o.b, .int .u32 o.c, .int .i64 o.v, o.tab] := by
  obtain ⟨xs, m, rfl, rfl, hl, hlen, hf⟩ := DataW.trod_struct Try.underlying47 h
  have hcl : Try.prog.cellsOf 47 = 6 := by kernel_rfl
  rw [hcl] at hl
  obtain ⟨c0, c1, c2, c3, c4, c5, rfl⟩ := list6 hl
  obtain ⟨y0, y1, y2, y3, y4, y5, rfl⟩ := list6 (l := xs) hlen
  have e3 : Try.prog.cellsOf 3 = 1 := by kernel_rfl
  have e33 : Try.prog.cellsOf 33 = 1 := by kernel_rfl
  have e45 : Try.prog.cellsOf 45 = 1 := by kernel_rfl
  have h0 : DataW.trod enc Try.prog w base spare held m 3 (([c0, c1, c2, c3, c4, c5].drop 0).take (Try.prog.cellsOf 3)) = [y0, y1, y2, y3, y4, y5][0]? := hf 0 _ rfl
  have h1 : DataW.trod enc Try.prog w base spare held m 33 (([c0, c1, c2, c3, c4, c5].drop 1).take (Try.prog.cellsOf 33)) = [y0, y1, y2, y3, y4, y5][1]? := hf 1 _ rfl
  have h2 : DataW.trod enc Try.prog w base spare held m 33 (([c0, c1, c2, c3, c4, c5].drop 2).take (Try.prog.cellsOf 33)) = [y0, y1, y2, y3, y4, y5][2]? := hf 2 _ rfl
  have h3 : DataW.trod enc Try.prog w base spare held m 33 (([c0, c1, c2, c3, c4, c5].drop 3).take (Try.prog.cellsOf 33)) = [y0, y1, y2, y3, y4, y5][3]? := hf 3 _ rfl
  have h4 : DataW.trod enc Try.prog w base spare held m 3 (([c0, c1, c2, c3, c4, c5].drop 4).take (Try.prog.cellsOf 3)) = [y0, y1, y2, y3, y4, y5][4]? := hf 4 _ rfl
  have h5 : DataW.trod enc Try.prog w base spare held m 45 (([c0, c1, c2, c3, c4, c5].drop 5).take (Try.prog.cellsOf 45)) = [y0, y1, y2, y3, y4, y5][5]? := hf 5 _ rfl
  rw [e3] at h0 h4
  rw [e33] at h1 h2 h3
  rw [e45] at h5
  obtain ⟨n0, q0, _, w0⟩ := DataW.trod_int Try.underlying3 h0
  obtain ⟨n1, q1, _, w1⟩ := DataW.trod_int Try.underlying33 h1
  obtain ⟨n2, q2, _, w2⟩ := DataW.trod_int Try.underlying33 h2
  obtain ⟨n3, q3, _, w3⟩ := DataW.trod_int Try.underlying33 h3
  obtain ⟨n4, q4, _, w4⟩ := DataW.trod_int Try.underlying3 h4
  obtain rfl : c0 = _ := (List.cons.inj q0).1
  obtain rfl : c1 = _ := (List.cons.inj q1).1
  obtain rfl : c2 = _ := (List.cons.inj q2).1
  obtain rfl : c3 = _ := (List.cons.inj q3).1
  obtain rfl : c4 = _ := (List.cons.inj q4).1
  obtain ⟨m1, rfl, l1⟩ := wf_u32' w1
  obtain ⟨m2, rfl, l2⟩ := wf_u32' w2
  obtain ⟨m3, rfl, l3⟩ := wf_u32' w3
  have i0 := wf_i64' w0
  have i4 := wf_i64' w4
  rcases ChangeShapes.open_ints Try.underlying45 Try.underlying33 e33 h5 with ⟨hcs, _⟩ | ⟨ta, len, cap, zs, hcs, _, hlc, hm, hz, _, hcell, hwz⟩
  · obtain rfl : c5 = _ := (List.cons.inj hcs).1
    exact ⟨⟨n0, m1, m2, m3, n4, .slice none 0 0, []⟩, ⟨i0.1, i0.2, l1, l2, l3, i4.1, i4.2, Or.inl ⟨rfl, rfl⟩⟩, rfl⟩
  · obtain rfl : c5 = _ := (List.cons.inj hcs).1
    have hle : len ≤ zs.length := by rw [hz]; split <;> omega
    refine ⟨⟨n0, m1, m2, m3, n4, .slice (some ta) len cap, (zs.take len).map Int.toNat⟩, ⟨i0.1, i0.2, l1, l2, l3, i4.1, i4.2, Or.inr ⟨ta, cap, ?_, ?_, ?_, ?_⟩⟩, rfl⟩
    · simp only [List.length_map, List.length_take, Nat.min_eq_left hle]
    · simp only [List.length_map, List.length_take, Nat.min_eq_left hle]
      exact hlc
    · exact hm
    · intro i x hx
      rw [List.getElem?_map, List.getElem?_take] at hx
      split at hx
      · rename_i hi
        have hiz : i < zs.length := by omega
        rw [List.getElem?_eq_getElem hiz] at hx
        simp only [Option.map_some, Option.some.injEq] at hx
        obtain ⟨z, hz1, hz2⟩ := wf_u32' (hwz _ (List.getElem_mem hiz))
        have hc := hcell i hiz
        rw [List.getD_eq_getElem?_getD, List.getElem?_eq_getElem hiz] at hc
        simp only [Option.getD_some] at hc
        rw [hz1] at hc hx
        have : x = z := by rw [← hx]; rfl
        subst this
        exact ⟨hz2, hc⟩
      · cases hx
theorem opened_ops {n : Nat} {cs : List Value} {x : DataW H × List MemPlace} (h : DataW.trod enc Try.prog w base spare held n 22 cs = some x) :
    ∃ v l, cs = [v] ∧ opsAt w v l := by
  rcases open_slice Try.underlying22 h with ⟨rfl, _⟩ | ⟨a, len, cap, m, k, D, Pl, rfl, _, hl, hm, hmm, _, hel⟩
  · exact ⟨_, [], rfl, Or.inl ⟨rfl, rfl⟩⟩
  · have hcl : Try.prog.cellsOf 47 = 6 := by kernel_rfl
    have hle : len ≤ m := by rw [hmm]; split <;> omega
    have hget : ∀ i, i < len → ∃ o : OpV, o.lies w (a.add (i * 6)) ∧ o.fits w := by
      intro i hi
      obtain ⟨cs', hc, ht⟩ := hel i (by omega)
      obtain ⟨o, ho, rfl⟩ := opened_op ht
      rw [hcl] at hc
      obtain ⟨_, _, hcc⟩ := World.cells?_some hc
      refine ⟨o, ⟨?_, hcc 1 (by omega), hcc 2 (by omega), hcc 3 (by omega), hcc 4 (by omega), hcc 5 (by omega), ho.one⟩, ho⟩
      have := hcc 0 (by omega)
      rw [show (a.add (i * 6)).add 0 = a.add (i * 6) by rw [add_add]; rfl] at this
      exact this
    have : Inhabited OpV := ⟨⟨0, 0, 0, 0, 0, .slice none 0 0, []⟩⟩
    obtain ⟨f, hf⟩ := choose_lt hget
    refine ⟨_, (List.range len).map f, rfl, Or.inr ⟨a, cap, ?_, ?_, ?_, ?_⟩⟩
    · rw [List.length_map, List.length_range]
    · rw [List.length_map, List.length_range]
      exact hl
    · exact hm
    · intro i x hx
      rw [List.getElem?_map] at hx
      rcases Nat.lt_or_ge i len with hi | hi
      · rw [List.getElem?_range hi] at hx
        simp only [Option.map_some, Option.some.injEq] at hx
        subst hx
        exact hf i hi
      · rw [List.getElem?_eq_none (by simpa using hi)] at hx
        cases hx
end Go.Proofs.Ytkomikpfnogjcaa
