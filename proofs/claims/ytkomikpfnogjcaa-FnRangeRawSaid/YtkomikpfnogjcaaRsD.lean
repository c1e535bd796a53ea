/- The coder's round trip: each kind of symbol, and raw bits. -/
import Derived.Test.YtkomikpfnogjcaaRsC
import Derived.Test.YtkomikpfnogjcaaRmL
namespace Go.Proofs.Ytkomikpfnogjcaa
open Go Go.Vc
set_option maxRecDepth 100000
set_option linter.unusedVariables false

/-- The raw bits, as one number, the first one lowest; how many they are. -/
def EncS.rawN (e : EncS) : Nat := num e.tail.reverse + e.win * 256 ^ e.tail.length
def EncS.rawC (e : EncS) : Nat := 8 * e.tail.length + e.nend
def rawOk (B : List Int) (e : EncS) : Prop := num B % 2 ^ e.rawC = e.rawN

theorem pow256 (n : Nat) : 256 ^ n = 2 ^ (8 * n) := by rw [Nat.pow_mul]
theorem rawN_lt {e : EncS} {N : Nat} (h : e.ok N) : e.rawN < 2 ^ e.rawC := by
  have h1 := num_lt (l := e.tail.reverse) fun x hx => h.tb x (List.mem_reverse.1 hx)
  rw [List.length_reverse] at h1
  have h2 := Nat.mul_le_mul_right (256 ^ e.tail.length) (Nat.succ_le_of_lt h.win)
  unfold EncS.rawN EncS.rawC
  rw [Nat.add_comm (8 * e.tail.length), Nat.pow_add, ← pow256]
  rw [Nat.succ_mul] at h2
  omega
theorem norm_rest (e : EncS) : ∀ k, (e.iter k).tail = e.tail ∧ (e.iter k).win = e.win ∧ (e.iter k).nend = e.nend
  | 0 => ⟨rfl, rfl, rfl⟩
  | k + 1 => by
    obtain ⟨a, b, c⟩ := norm_rest e k
    obtain ⟨d, f, g, _⟩ := carry_rest (e.iter k) ((e.iter k).low / 8388608)
    exact ⟨d.trans a, f.trans b, g.trans c⟩
theorem rawOk_of {B : List Int} {e f : EncS} (h1 : f.tail = e.tail) (h2 : f.win = e.win) (h3 : f.nend = e.nend) (h : rawOk B f) : rawOk B e := by
  unfold rawOk EncS.rawN EncS.rawC at *
  rwa [h1, h2, h3] at h

/-- A part of a total. -/
theorem cum_rt {e : EncS} {N lo hi n : Nat} (h : e.inv N) (hr : e.roomy) (h1 : lo < hi) (h2 : hi ≤ n) (h3 : n ≤ 65535) :
    (e.cum lo hi n).roomy ∧ (∀ B, rawOk B (e.cum lo hi n) → rawOk B e) ∧ (∀ B, holds B (e.cum lo hi n) → holds B e) ∧
      ∀ B d, (∀ x ∈ B, 0 ≤ x ∧ x < 256) → Rt B e d → holds B (e.cum lo hi n) → lo ≤ d.at n ∧ d.at n < hi ∧ Rt B (e.cum lo hi n) (d.cut (d.rng / n) lo hi n).norm := by
  have hc : e.cum lo hi n = (e.sym lo hi n).norm := by
    unfold EncS.cum
    rw [if_neg (by omega)]
  obtain ⟨a, b, c, g, g1, g2, g3, g4⟩ := sym_V (N := N) h.ok h1 h2
  have hok := EncS.sym_ok h.ok h.big h1 h2 h3
  obtain ⟨n1, n2, n3⟩ := norm_rest (e.sym lo hi n) (e.sym lo hi n).steps
  rw [hc]
  refine ⟨roomy_norm hok (g4 hr), fun B hb => rawOk_of (n1.trans g1) (n2.trans g3) (n3.trans g2) hb, fun B hh => holds_sym h.ok h1 h2 (holds_norm hok (g4 hr) hh), fun B d hB ht hh => ?_⟩
  obtain ⟨q1, q2, q3⟩ := Rt_sym h h1 h2 h3 (holds_norm hok (g4 hr) hh) ht
  exact ⟨q1, q2, Rt_norm hB hok (g4 hr) hh q3⟩

/-- A bit. -/
theorem bit_rt {e : EncS} {N k b : Nat} (h : e.inv N) (hr : e.roomy) (hk : 1 ≤ k) (hk2 : k ≤ 15) (hb : b ≤ 1) :
    (e.bit k b).norm.roomy ∧ (∀ B, rawOk B (e.bit k b).norm → rawOk B e) ∧ (∀ B, holds B (e.bit k b).norm → holds B e) ∧
      ∀ B d, (∀ x ∈ B, 0 ≤ x ∧ x < 256) → Rt B e d → holds B (e.bit k b).norm → (d.logp k).1 = b ∧ Rt B (e.bit k b).norm (d.logp k).2 := by
  have hp : 2 ^ 1 ≤ 2 ^ k := Nat.pow_le_pow_right (by omega) hk
  have hp2 : 2 ^ k ≤ 2 ^ 15 := Nat.pow_le_pow_right (by omega) hk2
  have hbs := EncS.bit_sym (e := e) (k := k) (b := b) hk
  have hbg := h.big
  have hs : 1 ≤ e.rng / 2 ^ k := (Nat.le_div_iff_mul_le (by omega)).2 (by omega)
  have hs2 : e.rng / 2 ^ k ≤ e.rng / 2 := Nat.div_le_div_left (by omega) (by omega)
  have hok : (e.bit k b).ok N := EncS.bit_ok h hk hk2
  have key : ∃ lo hi, lo < hi ∧ hi ≤ 2 ^ k ∧ e.bit k b = e.sym lo hi (2 ^ k) := by
    rw [hbs]
    by_cases c : b = 0
    · rw [if_pos c]
      exact ⟨_, _, by omega, by omega, rfl⟩
    · rw [if_neg c]
      exact ⟨_, _, by omega, by omega, rfl⟩
  obtain ⟨lo, hi, l1, l2, l3⟩ := key
  obtain ⟨a, _, _, g, g1, g2, g3, g4⟩ := sym_V (N := N) h.ok l1 l2
  rw [← l3] at a g g1 g2 g3 g4
  obtain ⟨n1, n2, n3⟩ := norm_rest (e.bit k b) (e.bit k b).steps
  refine ⟨roomy_norm hok (g4 hr), fun B hb => rawOk_of (n1.trans g1) (n2.trans g3) (n3.trans g2) hb, fun B hh => ?_, fun B d hB ht hh => ?_⟩
  · have := holds_norm hok (g4 hr) hh
    rw [l3] at this
    exact holds_sym h.ok l1 l2 this
  · have hh2 := holds_norm hok (g4 hr) hh
    obtain ⟨t1, t2, t3, t4, t5⟩ := ht
    by_cases c : b = 0
    · have hbit : e.bit k b = { e with rng := e.rng - e.rng / 2 ^ k } := if_pos c
      have hV : (e.bit k b).V = e.V := by rw [hbit]; rfl
      have hR : (e.bit k b).rng = e.rng - e.rng / 2 ^ k := by rw [hbit]
      have hh3 := hh2
      unfold holds at hh3
      rw [hV, hR, g] at hh3
      have hd : d.logp k = (0, { d with val := d.val - d.rng / 2 ^ k, rng := d.rng - d.rng / 2 ^ k }.norm) := by
        unfold Dec.logp
        rw [t3, if_pos (by omega)]
      rw [hd]
      refine ⟨c.symm, Rt_norm hB hok (g4 hr) hh ⟨t1, by rw [g]; exact t2, ?_, ?_, by rw [g1, g2]; exact t5⟩⟩
      · rw [hR, t3]
      · show d.val - d.rng / 2 ^ k + 1 + _ = _
        rw [hV, hR, g, t3]
        omega
    · have hbit : e.bit k b = { e with low := e.low + (e.rng - e.rng / 2 ^ k), rng := e.rng / 2 ^ k } := if_neg c
      have hV : (e.bit k b).V = e.V + (e.rng - e.rng / 2 ^ k) := by
        rw [hbit]
        show e.fr * 2147483648 + (e.low + _) = e.fr * 2147483648 + e.low + _
        omega
      have hR : (e.bit k b).rng = e.rng / 2 ^ k := by rw [hbit]
      have hh3 := hh2
      unfold holds at hh3
      rw [hV, hR, g] at hh3
      have hd : d.logp k = (1, { d with rng := d.rng / 2 ^ k }.norm) := by
        unfold Dec.logp
        rw [t3, if_neg (by omega)]
      rw [hd]
      refine ⟨by show 1 = b; omega, Rt_norm hB hok (g4 hr) hh ⟨t1, by rw [g]; exact t2, ?_, ?_, by rw [g1, g2]; exact t5⟩⟩
      · rw [hR, t3]
      · show d.val + 1 + _ = _
        rw [hV, hR, g]
        omega

/-- The place in a table. -/
theorem tabK_of {total sym k : Nat} {rest : List Nat} (h : TabOk total rest) (hr : rising rest rest.length) (hk : k < rest.length) (h1 : tabLow rest k ≤ sym) (h2 : sym < rest.getD k 0) : tabK rest sym = k := by
  have hm : rest.getD k 0 ≤ total := by
    refine h.le _ ?_
    rw [List.getD_eq_getElem?_getD, List.getElem?_eq_getElem hk]
    exact List.getElem_mem hk
  obtain ⟨a, _, b, _, c, d⟩ := tabK_spec h (sym := sym) (by omega)
  have up : ∀ i j, i + j < rest.length → rest.getD i 0 ≤ rest.getD (i + j) 0 := by
    intro i j
    induction j with
    | zero => intro _; exact Nat.le_refl _
    | succ j ih => intro hj; exact Nat.le_trans (ih (by omega)) (hr (i + j) hj)
  rcases Nat.lt_trichotomy (tabK rest sym) k with c1 | c1 | c1
  · unfold tabLow at h1
    rw [if_neg (by omega)] at h1
    have := up (tabK rest sym) (k - 1 - tabK rest sym) (by omega)
    rw [show tabK rest sym + (k - 1 - tabK rest sym) = k - 1 by omega] at this
    omega
  · exact c1
  · have := (d k c1).2
    omega

/-! Raw bits -/
theorem raw_keep (e : EncS) (n v : Nat) : ∀ k, ((e.rawTop n v).rawIter k).V = e.V ∧ ((e.rawTop n v).rawIter k).pos = e.pos ∧ ((e.rawTop n v).rawIter k).rng = e.rng ∧ (e.roomy → ((e.rawTop n v).rawIter k).roomy)
  | 0 => ⟨rfl, rfl, rfl, id⟩
  | k + 1 => raw_keep e n v k
theorem rawStep_num {e : EncS} (h : 8 ≤ e.nend) : e.rawStep.rawN = e.rawN ∧ e.rawStep.rawC = e.rawC := by
  constructor
  · unfold EncS.rawN
    show num (e.tail ++ [((e.win % 256 : Nat) : Int)]).reverse + e.win / 256 * 256 ^ (e.tail ++ [((e.win % 256 : Nat) : Int)]).length = _
    rw [List.reverse_append, List.length_append, num_append, List.length_reverse, List.length_singleton, Nat.pow_succ]
    show num [((e.win % 256 : Nat) : Int)] * _ + _ + _ = _
    rw [num_one, Int.toNat_natCast]
    have e1 : e.win / 256 * (256 ^ e.tail.length * 256) = (e.win / 256 * 256) * 256 ^ e.tail.length := by
      rw [Nat.mul_comm (256 ^ e.tail.length), Nat.mul_assoc]
    have e2 : e.win * 256 ^ e.tail.length = (e.win / 256 * 256) * 256 ^ e.tail.length + e.win % 256 * 256 ^ e.tail.length := by
      rw [← Nat.add_mul]
      congr 1
      omega
    omega
  · show 8 * (e.tail ++ [_]).length + (e.nend - 8) = 8 * e.tail.length + e.nend
    rw [List.length_append, List.length_singleton]
    omega
theorem rawIter_num {e : EncS} : ∀ k, 8 * k ≤ e.nend → (e.rawIter k).rawN = e.rawN ∧ (e.rawIter k).rawC = e.rawC
  | 0, _ => ⟨rfl, rfl⟩
  | k + 1, hk => by
    obtain ⟨a, b⟩ := rawIter_num (e := e) k (by omega)
    obtain ⟨c, _⟩ := EncS.rawIter_facts e k (by omega)
    obtain ⟨f, g⟩ := rawStep_num (e := e.rawIter k) (by omega)
    exact ⟨f.trans a, g.trans b⟩
theorem raw_num (e : EncS) (n v : Nat) : (e.raw n v).rawN = e.rawN + v % 2 ^ n * 2 ^ e.rawC ∧ (e.raw n v).rawC = e.rawC + n := by
  obtain ⟨a, b⟩ := rawIter_num (e := e.rawTop n v) ((e.nend + n) / 8) (by show 8 * _ ≤ e.nend + n; omega)
  refine ⟨a.trans ?_, b.trans ?_⟩
  · unfold EncS.rawN EncS.rawC
    show num e.tail.reverse + (e.win + v % 2 ^ n * 2 ^ e.nend) * 256 ^ e.tail.length = _
    rw [Nat.add_mul, Nat.add_comm (8 * e.tail.length), Nat.pow_add, ← pow256, Nat.mul_assoc, Nat.add_assoc]
  · show 8 * e.tail.length + (e.nend + n) = 8 * e.tail.length + e.nend + n
    omega
theorem rawAt_num {d : Dec} (h : ∀ x ∈ d.data, 0 ≤ x ∧ x < 256) (i : Nat) : d.rawAt i = num d.data / 2 ^ i % 2 := by
  unfold Dec.rawAt
  split
  · rename_i hi
    have h0 : d.byte (d.data.length - 1 - i / 8) = num d.data / 256 ^ (d.data.length - 1 - (d.data.length - 1 - i / 8)) % 256 := get_num h (by omega)
    rw [h0, show d.data.length - 1 - (d.data.length - 1 - i / 8) = i / 8 by omega]
    have e1 : ∀ Z j : Nat, j < 8 → Z % 256 / 2 ^ j % 2 = Z / 2 ^ j % 2 := by
      intro Z j hj
      rw [show (256 : Nat) = 2 ^ j * 2 ^ (8 - j) by rw [← Nat.pow_add, show j + (8 - j) = 8 by omega], Nat.mod_mul_right_div_self, Nat.mod_mod_of_dvd _ (by rw [show 8 - j = (7 - j) + 1 by omega, Nat.pow_succ]; exact Nat.dvd_mul_left ..)]
    rw [e1 _ _ (Nat.mod_lt _ (by omega)), Nat.div_div_eq_div_mul, pow256, ← Nat.pow_add, show 8 * (i / 8) + i % 8 = i by omega]
  · rename_i hi
    have h1 := num_lt h
    have h2 : 256 ^ d.data.length ≤ 2 ^ i := by
      rw [pow256]
      exact Nat.pow_le_pow_right (by omega) (by omega)
    rw [Nat.div_eq_of_lt (by omega)]
theorem raw_read {d : Dec} (h : ∀ x ∈ d.data, 0 ≤ x ∧ x < 256) : ∀ n, d.raw n = num d.data / 2 ^ d.rb % 2 ^ n
  | 0 => by
    rw [Nat.pow_zero, Nat.mod_one]
    rfl
  | n + 1 => by
    show d.raw n + d.rawAt (d.rb + n) * 2 ^ n = _
    rw [raw_read h n, rawAt_num h, Nat.pow_add, ← Nat.div_div_eq_div_mul, Nat.mod_pow_succ, Nat.mul_comm (2 ^ n)]
/-- Raw bits that were put are found. -/
theorem raw_rt {e : EncS} {N n v : Nat} (h : e.ok N) :
    ((e.roomy → (e.raw n v).roomy)) ∧ (∀ B, holds B (e.raw n v) ↔ holds B e) ∧ (∀ B, rawOk B (e.raw n v) → rawOk B e ∧ num B / 2 ^ e.rawC % 2 ^ n = v % 2 ^ n) ∧
      ∀ B d, (∀ x ∈ B, 0 ≤ x ∧ x < 256) → Rt B e d → rawOk B (e.raw n v) → d.raw n = v % 2 ^ n ∧ Rt B (e.raw n v) (d.rawOn n) := by
  obtain ⟨k1, k2, k3, k4⟩ := raw_keep e n v ((e.nend + n) / 8)
  obtain ⟨r1, r2⟩ := raw_num e n v
  have key : ∀ B, rawOk B (e.raw n v) → rawOk B e ∧ num B / 2 ^ e.rawC % 2 ^ n = v % 2 ^ n := by
    intro B hB
    unfold rawOk at *
    rw [r1, r2] at hB
    have hl := rawN_lt h
    have hv : v % 2 ^ n < 2 ^ n := Nat.mod_lt _ (Nat.two_pow_pos n)
    have e1 : num B % 2 ^ (e.rawC + n) % 2 ^ e.rawC = num B % 2 ^ e.rawC := Nat.mod_mod_of_dvd _ (Nat.pow_dvd_pow 2 (by omega))
    have e2 : num B % 2 ^ (e.rawC + n) / 2 ^ e.rawC = num B / 2 ^ e.rawC % 2 ^ n := by
      rw [Nat.pow_add, Nat.mod_mul_right_div_self]
    rw [hB] at e1 e2
    rw [Nat.add_mul_mod_self_right, Nat.mod_eq_of_lt hl] at e1
    rw [Nat.add_mul_div_right _ _ (Nat.two_pow_pos _), Nat.div_eq_of_lt hl, Nat.zero_add] at e2
    exact ⟨e1.symm, e2.symm⟩
  refine ⟨k4, fun B => ?_, key, fun B d hB ht hr => ?_⟩
  · unfold holds
    rw [show (e.raw n v).V = e.V from k1, show (e.raw n v).pos = e.pos from k2, show (e.raw n v).rng = e.rng from k3]
  · obtain ⟨t1, t2, t3, t4, t5⟩ := ht
    refine ⟨?_, t1, ?_, ?_, ?_, ?_⟩
    · rw [raw_read (by rw [t1]; exact hB), t1, t5]
      exact (key B hr).2
    · rw [show (e.raw n v).pos = e.pos from k2]
      exact t2
    · rw [show (e.raw n v).rng = e.rng from k3]
      exact t3
    · rw [show (e.raw n v).V = e.V from k1, show (e.raw n v).pos = e.pos from k2, show (e.raw n v).rng = e.rng from k3]
      exact t4
    · show d.rb + n = (e.raw n v).rawC
      rw [r2, t5]
      rfl

/-- A whole number. -/
theorem whole_rt {e : EncS} {N n v : Nat} (h : e.inv N) (hr : e.roomy) (hn : 2 ≤ n) (hn2 : n < 4294967296) (hv : v < n) :
    (e.whole n v).roomy ∧ (∀ B, rawOk B (e.whole n v) → rawOk B e) ∧ (∀ B, holds B (e.whole n v) → holds B e) ∧
      ∀ B d, (∀ x ∈ B, 0 ≤ x ∧ x < 256) → Rt B e d → rawOk B (e.whole n v) → holds B (e.whole n v) → (d.whole n).1 = v ∧ (d.whole n).2.1 = true ∧ Rt B (e.whole n v) (d.whole n).2.2 := by
  have h3 := len_le (n := n - 1) (k := 32) (by omega)
  by_cases hl : len (n - 1) ≤ 8
  · have he : e.whole n v = e.cum v (v + 1) n := if_pos hl
    have hs := small_of_len hl
    obtain ⟨a, b, c, f⟩ := cum_rt h hr (lo := v) (hi := v + 1) (n := n) (by omega) (by omega) (by omega)
    rw [he]
    refine ⟨a, b, c, fun B d hB ht _ hh => ?_⟩
    obtain ⟨q1, q2, q3⟩ := f B d hB ht hh
    have hd : d.whole n = (d.at n, true, d.uni n) := if_pos hl
    have hat : d.at n = v := by omega
    rw [hd]
    refine ⟨hat, rfl, ?_⟩
    show Rt B _ (d.uni n)
    unfold Dec.uni
    rw [hat]
    exact q3
  · obtain ⟨p1, p2⟩ := top_small (n := n - 1) (by omega)
    have hv2 : v / 2 ^ (len (n - 1) - 8) ≤ (n - 1) / 2 ^ (len (n - 1) - 8) := Nat.div_le_div_right (by omega)
    have he : e.whole n v = (e.cum (v / 2 ^ (len (n - 1) - 8)) (v / 2 ^ (len (n - 1) - 8) + 1) ((n - 1) / 2 ^ (len (n - 1) - 8) + 1)).raw (len (n - 1) - 8) (v % 2 ^ (len (n - 1) - 8)) := if_neg hl
    have hd : ∀ d : Dec, d.whole n = (if d.at ((n - 1) / 2 ^ (len (n - 1) - 8) + 1) * 2 ^ (len (n - 1) - 8) + (d.uni ((n - 1) / 2 ^ (len (n - 1) - 8) + 1)).raw (len (n - 1) - 8) ≤ n - 1 then d.at ((n - 1) / 2 ^ (len (n - 1) - 8) + 1) * 2 ^ (len (n - 1) - 8) + (d.uni ((n - 1) / 2 ^ (len (n - 1) - 8) + 1)).raw (len (n - 1) - 8) else n - 1, decide (d.at ((n - 1) / 2 ^ (len (n - 1) - 8) + 1) * 2 ^ (len (n - 1) - 8) + (d.uni ((n - 1) / 2 ^ (len (n - 1) - 8) + 1)).raw (len (n - 1) - 8) ≤ n - 1), (d.uni ((n - 1) / 2 ^ (len (n - 1) - 8) + 1)).rawOn (len (n - 1) - 8)) := fun d => if_neg hl
    obtain ⟨a, b, c, f⟩ := cum_rt h hr (lo := v / 2 ^ (len (n - 1) - 8)) (hi := v / 2 ^ (len (n - 1) - 8) + 1) (n := (n - 1) / 2 ^ (len (n - 1) - 8) + 1) (by omega) (by omega) (by omega)
    have hci : (e.cum (v / 2 ^ (len (n - 1) - 8)) (v / 2 ^ (len (n - 1) - 8) + 1) ((n - 1) / 2 ^ (len (n - 1) - 8) + 1)).inv (N + 3) := EncS.cum_inv h (by omega)
    have hdm := Nat.div_add_mod v (2 ^ (len (n - 1) - 8))
    rw [he]
    generalize (n - 1) / 2 ^ (len (n - 1) - 8) + 1 = t at *
    generalize hk : len (n - 1) - 8 = k at *
    generalize e.cum (v / 2 ^ k) (v / 2 ^ k + 1) t = g at *
    obtain ⟨r1, r2, r3, r4⟩ := raw_rt (n := k) (v := v % 2 ^ k) hci.ok
    refine ⟨r1 a, fun B hb => b B (r3 B hb).1, fun B hh => c B ((r2 B).1 hh), fun B d hB ht hb hh => ?_⟩
    obtain ⟨q1, q2, q3⟩ := f B d hB ht ((r2 B).1 hh)
    have hat : d.at t = v / 2 ^ k := by omega
    have hu : Rt B g (d.uni t) := by
      unfold Dec.uni
      rw [hat]
      exact q3
    obtain ⟨s1, s2⟩ := r4 B _ hB hu hb
    rw [Nat.mod_mod] at s1
    rw [hd d, s1, hat]
    rw [Nat.mul_comm] at hdm
    rw [hdm]
    exact ⟨if_pos (by omega), decide_eq_true (by omega), s2⟩
end Go.Proofs.Ytkomikpfnogjcaa
