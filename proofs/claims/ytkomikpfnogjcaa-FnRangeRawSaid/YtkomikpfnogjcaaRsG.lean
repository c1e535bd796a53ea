/- The coder's round trip: the bytes as a whole. -/
import Derived.Test.YtkomikpfnogjcaaRsF
namespace Go.Proofs.Ytkomikpfnogjcaa
open Go Go.Vc
set_option maxRecDepth 100000
set_option linter.unusedVariables false

theorem last_split {e : EncS} {N : Nat} (h : e.inv N) (hr : e.roomy) : 8 * e.outs = (31 - e.cutK) + e.free ∧ e.free ≤ 7 ∧ ∃ y, num e.last.buf = y * 2 ^ e.free := by
  obtain ⟨a, b⟩ := last_num h hr
  obtain ⟨q1, q2, _⟩ := EncS.cutK_spec h
  have ho : e.outs = (31 - e.cutK + 7) / 8 := rfl
  have hl : e.left = ((31 - e.cutK : Nat) : Int) - ((8 * e.outs : Nat) : Int) := rfl
  have hfree : e.free = (-e.left).toNat := rfl
  have h8 : 8 * e.outs = (31 - e.cutK) + e.free := by omega
  refine ⟨h8, by omega, ?_⟩
  have hE : e.ends = (e.low + (2 ^ e.cutK - 1)) / 2 ^ e.cutK * 2 ^ e.cutK := rfl
  rw [hE] at a
  generalize (e.low + (2 ^ e.cutK - 1)) / 2 ^ e.cutK = z at *
  refine ⟨e.fr * 2 ^ (31 - e.cutK) + z, ?_⟩
  have e1 : (e.fr * 2147483648 + z * 2 ^ e.cutK) * 256 ^ e.outs = ((e.fr * 2 ^ (31 - e.cutK) + z) * 2 ^ e.free) * 2147483648 := by
    rw [pow256, h8, Nat.pow_add]
    have e2 : (2147483648 : Nat) = 2 ^ e.cutK * 2 ^ (31 - e.cutK) := by
      rw [← Nat.pow_add, show e.cutK + (31 - e.cutK) = 31 by omega]
    rw [e2]
    generalize 2 ^ e.cutK = A
    generalize 2 ^ (31 - e.cutK) = C
    generalize 2 ^ e.free = G
    generalize e.fr = f
    rw [Nat.add_mul, Nat.add_mul, Nat.add_mul]
    congr 1
    · rw [← Nat.mul_assoc, ← Nat.mul_assoc, ← Nat.mul_assoc, Nat.mul_right_comm (f * A * C) C G]
      rw [Nat.mul_right_comm (f * A) C G, Nat.mul_right_comm f A G]
      rw [Nat.mul_right_comm (f * G * A) C C, Nat.mul_right_comm (f * G) A C, Nat.mul_right_comm f G C]
    · rw [← Nat.mul_assoc, Nat.mul_assoc (z * A) C G, Nat.mul_comm C G, ← Nat.mul_assoc, Nat.mul_right_comm z A G, ← Nat.mul_assoc]
  rw [e1] at a
  exact Nat.eq_of_mul_eq_mul_right (by omega) a

theorem done_split {e : EncS} {N : Nat} (h : e.inv N) (hr : e.roomy) : (∀ x ∈ e.done, 0 ≤ x ∧ x < 256) ∧
    ∃ D, e.done.length = e.last.buf.length + D ∧ num e.done = num e.last.buf * 256 ^ D + e.rawN ∧ e.rawN < 2 ^ e.free * 256 ^ D ∧ 2 ^ e.rawC ∣ num e.last.buf * 256 ^ D := by
  obtain ⟨s1, s2, y, s3⟩ := last_split h hr
  obtain ⟨_, b, c, d, hb⟩ := EncS.last_facts h
  have hw := h.ok.win
  have hn := h.ok.nend
  have htb := h.ok.tb
  have hrl := rawN_lt h.ok
  have hm : e.last.more e.free = bif decide (0 < e.last.nend) then (bif decide (e.last.buf.length = 0) then true else decide (e.free < e.last.nend)) else false := rfl
  have hdn : e.done = if e.last.nend = 0 then e.base else bif e.last.more e.free then e.base.set e.last.buf.length e.last.win else e.base.set (e.last.buf.length - 1) (((e.base.getD (e.last.buf.length - 1) 0).toNat ||| e.last.win : Nat) : Int) := rfl
  have hbs : e.base = e.last.buf ++ List.replicate (bif e.last.more e.free then 1 else 0) 0 ++ e.last.tail.reverse := rfl
  have hRN : e.rawN = num e.tail.reverse + e.win * 256 ^ e.tail.length := rfl
  have hRC : e.rawC = 8 * e.tail.length + e.nend := rfl
  have htr : ∀ x ∈ e.tail.reverse, 0 ≤ x ∧ x < 256 := fun x hx => htb x (List.mem_reverse.1 hx)
  have hwb : e.win < 2 ^ 7 := Nat.lt_of_lt_of_le hw (Nat.pow_le_pow_right (by omega) hn)
  have hnt := num_lt htr
  rw [List.length_reverse] at hnt
  rw [hdn, hbs]
  rw [b, c, d]
  rw [d] at hm
  generalize e.last.more e.free = mo at *
  generalize e.last.buf = F at *
  generalize e.rawN = RN at *
  generalize e.rawC = RC at *
  generalize e.tail = T at *
  generalize e.win = W at *
  generalize e.nend = n at *
  generalize e.free = fr at *
  clear hdn hbs b c d
  by_cases c0 : n = 0
  · subst c0
    rw [if_pos rfl]
    obtain rfl : mo = false := hm
    rw [show F ++ List.replicate (bif false then 1 else 0) 0 ++ T.reverse = F ++ T.reverse by show F ++ [] ++ T.reverse = _; rw [List.append_nil]]
    have hW : W = 0 := by omega
    subst hW
    refine ⟨fun x hx => ?_, T.length, ?_, ?_, ?_, ?_⟩
    · rcases List.mem_append.1 hx with hx | hx
      · exact hb x hx
      · exact htr x hx
    · rw [List.length_append, List.length_reverse]
    · rw [num_append, List.length_reverse, hRN, Nat.zero_mul, Nat.add_zero]
    · rw [hRN, Nat.zero_mul, Nat.add_zero]
      exact Nat.lt_of_lt_of_le hnt (Nat.le_mul_of_pos_left _ (Nat.two_pow_pos _))
    · rw [hRC, Nat.add_zero, pow256]
      exact Nat.dvd_mul_left ..
  · rw [if_neg c0]
    rw [decide_eq_true (by omega)] at hm
    cases mo with
    | true =>
      show (∀ x ∈ (F ++ [0] ++ T.reverse).set F.length W, _) ∧ ∃ D, ((F ++ [0] ++ T.reverse).set F.length W).length = _ ∧ num ((F ++ [0] ++ T.reverse).set F.length W) = _ ∧ _
      have hset : (F ++ [0] ++ T.reverse).set F.length (W : Int) = F ++ ([(W : Int)] ++ T.reverse) := by
        rw [List.append_assoc, List.set_append_right _ _ (Nat.le_refl _), Nat.sub_self]
        rfl
      rw [hset]
      refine ⟨fun x hx => ?_, T.length + 1, ?_, ?_, ?_, ?_⟩
      · rcases List.mem_append.1 hx with hx | hx
        · exact hb x hx
        · rcases List.mem_append.1 hx with hx | hx
          · rw [List.mem_singleton.1 hx]
            omega
          · exact htr x hx
      · rw [List.length_append, List.length_append, List.length_reverse, List.length_singleton]
        omega
      · rw [num_append, num_append, num_one, List.length_append, List.length_reverse, List.length_singleton, hRN, Int.toNat_natCast, Nat.add_comm 1]
        omega
      · rw [hRN, Nat.pow_succ]
        have h1 := Nat.mul_le_mul_right (256 ^ T.length) (show W + 1 ≤ 128 by omega)
        have h2 : 256 ^ T.length * 256 ≤ 2 ^ fr * (256 ^ T.length * 256) := Nat.le_mul_of_pos_left _ (Nat.two_pow_pos _)
        rw [Nat.add_mul, Nat.one_mul] at h1
        omega
      · rw [hRC, pow256]
        exact Nat.dvd_trans (Nat.pow_dvd_pow 2 (by omega)) (Nat.dvd_mul_left ..)
    | false =>
      show (∀ x ∈ (F ++ [] ++ T.reverse).set (F.length - 1) ((((F ++ [] ++ T.reverse).getD (F.length - 1) 0).toNat ||| W : Nat) : Int), _) ∧ ∃ D, ((F ++ [] ++ T.reverse).set (F.length - 1) ((((F ++ [] ++ T.reverse).getD (F.length - 1) 0).toNat ||| W : Nat) : Int)).length = _ ∧ num ((F ++ [] ++ T.reverse).set (F.length - 1) ((((F ++ [] ++ T.reverse).getD (F.length - 1) 0).toNat ||| W : Nat) : Int)) = _ ∧ _
      rw [List.append_nil]
      rcases List.eq_nil_or_concat F with rfl | ⟨A, x, rfl⟩
      · rw [List.length_nil, decide_eq_true rfl] at hm
        cases hm
      rw [List.concat_eq_append] at *
      have hlen : (A ++ [x]).length = A.length + 1 := by rw [List.length_append, List.length_singleton]
      rw [decide_eq_false (by rw [hlen]; omega)] at hm
      have hnf : n ≤ fr := by
        have := of_decide_eq_false hm.symm
        omega
      have hx := hb x (List.mem_append_right _ (List.mem_singleton.2 rfl))
      have hget : (A ++ [x] ++ T.reverse).getD ((A ++ [x]).length - 1) 0 = x := by
        rw [hlen, Nat.add_sub_cancel, List.getD_eq_getElem?_getD, List.append_assoc, List.getElem?_append_right (Nat.le_refl _), Nat.sub_self]
        rfl
      have hset : ∀ z : Int, (A ++ [x] ++ T.reverse).set ((A ++ [x]).length - 1) z = A ++ [z] ++ T.reverse := by
        intro z
        rw [hlen, Nat.add_sub_cancel, List.append_assoc, List.set_append_right _ _ (Nat.le_refl _), Nat.sub_self, List.append_assoc]
        rfl
      rw [hget, hset]
      have hWf : W < 2 ^ fr := Nat.lt_of_lt_of_le hw (Nat.pow_le_pow_right (by omega) hnf)
      have hxm : x.toNat % 2 ^ fr = 0 := by
        rw [num_snoc] at s3
        have e1 : (num A * 256 + x.toNat) % 2 ^ fr = x.toNat % 2 ^ fr := by
          rw [show (256 : Nat) = 2 ^ (8 - fr) * 2 ^ fr by rw [← Nat.pow_add, show 8 - fr + fr = 8 by omega], ← Nat.mul_assoc, Nat.mul_add_mod_self_right]
        rw [← e1, s3]
        exact Nat.mul_mod_left _ _
      have hor : x.toNat ||| W = x.toNat + W := by
        have hd := Nat.div_add_mod x.toNat (2 ^ fr)
        rw [hxm, Nat.add_zero, Nat.mul_comm] at hd
        rw [← hd]
        exact nor_add hWf
      have hxw : x.toNat + W < 256 := by
        rw [← hor]
        exact Nat.or_lt_two_pow (n := 8) (by omega) (by omega)
      rw [hor]
      refine ⟨fun z hz => ?_, T.length, ?_, ?_, ?_, ?_⟩
      · rcases List.mem_append.1 hz with hz | hz
        · rcases List.mem_append.1 hz with hz | hz
          · exact hb z (List.mem_append_left _ hz)
          · rw [List.mem_singleton.1 hz]
            omega
        · exact htr z hz
      · rw [List.length_append, List.length_reverse, List.length_append, List.length_append, List.length_singleton, List.length_singleton]
      · rw [num_append, num_snoc, num_snoc, List.length_reverse, hRN, Int.toNat_natCast, ← Nat.add_assoc, Nat.add_mul _ W]
        omega
      · rw [hRN]
        have h1 := Nat.mul_le_mul_right (256 ^ T.length) (Nat.succ_le_of_lt hWf)
        rw [Nat.succ_mul] at h1
        omega
      · rw [hRC, s3, pow256, Nat.mul_assoc, ← Nat.pow_add]
        exact Nat.dvd_trans (Nat.pow_dvd_pow 2 (by omega)) (Nat.dvd_mul_left ..)
/-- The bytes lie in the writer's range, and hold its raw bits. -/
theorem done_ends {e : EncS} {N : Nat} (h : e.inv N) (hr : e.roomy) : (∀ x ∈ e.done, 0 ≤ x ∧ x < 256) ∧ holds e.done e ∧ rawOk e.done e := by
  obtain ⟨hb, D, d1, d2, d3, d4⟩ := done_split h hr
  obtain ⟨a, b⟩ := last_num h hr
  obtain ⟨s1, s2, _⟩ := last_split h hr
  obtain ⟨q1, q2, _⟩ := EncS.cutK_spec h
  obtain ⟨e1, e2⟩ := ends_spec h
  refine ⟨hb, ?_, ?_⟩
  · have hpe : e.pos = 31 + 8 * e.cnt := rfl
    have hV : e.V = e.fr * 2147483648 + e.low := rfl
    have hY : num e.last.buf * 256 ^ D * 2 ^ e.pos = (e.fr * 2147483648 + e.ends) * 2 ^ (8 * e.done.length) := by
      rw [hpe, d1, b, Nat.pow_add, ← Nat.mul_assoc, Nat.mul_right_comm (num e.last.buf) (256 ^ D) (2 ^ 31), show (2 : Nat) ^ 31 = 2147483648 by decide, a, pow256, pow256]
      rw [Nat.mul_assoc, Nat.mul_assoc, ← Nat.pow_add, ← Nat.pow_add, show 8 * e.outs + (8 * D + 8 * e.cnt) = 8 * (e.cnt + e.outs + D) by omega]
    have hlo : e.fr * 2147483648 + e.ends ≤ cod e.done e.pos := by
      unfold cod
      rw [Nat.le_div_iff_mul_le (Nat.two_pow_pos _), ← hY, d2, Nat.add_mul]
      omega
    have hhi : cod e.done e.pos < e.fr * 2147483648 + e.ends + 2 ^ e.cutK := by
      unfold cod
      rw [Nat.div_lt_iff_lt_mul (Nat.two_pow_pos _), d2, Nat.add_mul _ e.rawN, Nat.add_mul _ (2 ^ e.cutK), ← hY]
      have e3 : 2 ^ e.cutK * 2 ^ (8 * e.done.length) = 2 ^ e.free * 256 ^ D * 2 ^ e.pos := by
        rw [pow256, ← Nat.pow_add, ← Nat.pow_add, ← Nat.pow_add, hpe, d1, b, show e.cutK + 8 * (e.cnt + e.outs + D) = e.free + 8 * D + (31 + 8 * e.cnt) by omega]
      rw [e3]
      have := (Nat.mul_lt_mul_right (Nat.two_pow_pos e.pos)).2 d3
      omega
    unfold holds
    rw [hV]
    omega
  · unfold rawOk
    rw [d2]
    obtain ⟨z, hz⟩ := d4
    rw [hz, Nat.mul_add_mod, Nat.mod_eq_of_lt (rawN_lt h.ok)]
end Go.Proofs.Ytkomikpfnogjcaa
