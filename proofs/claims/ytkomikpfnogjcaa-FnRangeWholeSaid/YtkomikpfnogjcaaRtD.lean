/- The reference's writer and the package's are one. -/
import Derived.Test.YtkomikpfnogjcaaRtC
import Derived.Test.YtkomikpfnogjcaaRoH
namespace Go.Proofs.Ytkomikpfnogjcaa
open Go Go.Vc
set_option maxRecDepth 100000
set_option linter.unusedVariables false

theorem ract_act {w0 : World} {e : EncS} {N : Nat} (h : e.inv N) {o : OpV} (ho : o.wr w0) (hm : o.met) : e.ract o = e.act o := by
  have ha := ho.a32
  rcases ho.kind with ⟨k, h1, h2, h3⟩ | ⟨k, h2, h3, h4⟩ | ⟨k, total, rest, ta, c, hr, ht1, ht2, hl, hx, hal, hlt, htab, hcell⟩ | ⟨k, h2, h3⟩ | ⟨k, h2, h3⟩ | ⟨k, h1, h2, h3, h4, h5⟩
  · rw [show e.ract o = (e.rsym o.a o.b o.c).norm by unfold EncS.ract; rw [k]; rfl, show e.act o = e.cum o.a o.b o.c by unfold EncS.act; rw [k]; rfl]
    rw [EncS.rsym_sym h.ok h1 h2]
    unfold EncS.cum
    rw [if_neg (by omega)]
  · rw [show e.ract o = (e.rbit o.a o.b).norm by unfold EncS.ract; rw [k]; rfl, show e.act o = (e.bit o.a o.b).norm by unfold EncS.act; rw [k]; rfl]
    congr 1
    unfold EncS.rbit EncS.bit
    have hlow := h.ok.low
    have := Nat.div_le_self e.rng (2 ^ o.a)
    have hhi := h.ok.hi
    generalize e.rng / 2 ^ o.a = s at *
    by_cases hb : o.b = 1
    · rw [if_pos hb, if_neg (by omega), Nat.mod_eq_of_lt (by omega)]
    · rw [if_neg hb, if_pos (by omega)]
  · obtain ⟨f1, f2, f3⟩ := tab_facts hx hal
    rw [hr, f1, f2] at hlt
    rw [show e.ract o = (e.rsym (lowOf o.rows o.a) (o.rows.getD (o.a + 1) 0) (o.rows.getD 0 0)).norm by unfold EncS.ract; rw [k]; rfl, show e.act o = e.tab total rest o.a by unfold EncS.act; rw [k, hr]; rfl]
    rw [hr, f1, f2]
    show (e.rsym (tabLow rest o.a) (rest.getD o.a 0) total).norm = _
    rw [EncS.rsym_sym h.ok hlt (by omega)]
    unfold EncS.tab EncS.cum
    rw [if_neg (by omega)]
  · rw [show e.ract o = e.rwhole o.a o.b by unfold EncS.ract; rw [k]; rfl, show e.act o = e.whole o.a o.b by unfold EncS.act; rw [k]; rfl]
    unfold EncS.rwhole EncS.whole
    split
    · rw [EncS.rsym_sym h.ok (by omega) (by omega)]
      unfold EncS.cum
      rw [if_neg (by omega)]
    · have hv2 : o.b / 2 ^ (len (o.a - 1) - 8) ≤ (o.a - 1) / 2 ^ (len (o.a - 1) - 8) := Nat.div_le_div_right (by omega)
      rw [EncS.rsym_sym h.ok (by omega) (by omega)]
      unfold EncS.cum
      generalize o.b / 2 ^ (len (o.a - 1) - 8) = x at *
      generalize (o.a - 1) / 2 ^ (len (o.a - 1) - 8) = y at *
      rw [if_neg (by omega)]
  · unfold EncS.ract EncS.act
    rw [k]
    rfl
  · rw [show e.ract o = e.rlap o.a o.b o.v by unfold EncS.ract; rw [k]; rfl, show e.act o = e.lap o.a o.b o.v by unfold EncS.act; rw [k]; rfl]
    obtain ⟨q1, q2, q3, q4⟩ := lap_same h1 h2 h3 h4 h5 (hm k)
    unfold EncS.rlap EncS.lap
    rw [q2, q1, EncS.rsym_sym h.ok q3 q4]
    unfold EncS.cum
    rw [if_neg (by omega)]
theorem rafter_after {w0 : World} : ∀ {l : List OpV} {e : EncS} {N : Nat}, e.inv N → (∀ o ∈ l, o.wr w0) → (∀ o ∈ l, o.met) → e.rafter l = e.after l ∧ e.rrng l = (e.seen l).map SeenV.rng
  | [], _, _, _, _, _ => ⟨rfl, rfl⟩
  | o :: r, e, N, h, hl, hm => by
    have ho := hl o (List.mem_cons_self ..)
    have ha := ract_act h ho (hm o (List.mem_cons_self ..))
    obtain ⟨b, c⟩ := rafter_after (l := r) (EncS.act_inv h ho.puts) (fun x hx => hl x (List.mem_cons_of_mem _ hx)) (fun x hx => hm x (List.mem_cons_of_mem _ hx))
    constructor
    · show (e.ract o).rafter r = (e.act o).after r
      rw [ha, b]
    · show (e.ract o).rng :: (e.ract o).rrng r = (e.act o).rng :: ((e.act o).seen r).map SeenV.rng
      rw [ha, c]

/-! The last bytes -/
theorem strOf_fold (b : List Int) : ∀ r : ByteArray, b.foldl (fun r n => r.push (UInt8.ofNat n.toNat)) r = r ++ strOf b := by
  induction b with
  | nil =>
    intro r
    show r = r ++ ByteArray.empty
    rw [ByteArray.append_empty]
  | cons x t ih =>
    intro r
    show t.foldl _ (r.push _) = r ++ t.foldl _ (ByteArray.empty.push _)
    rw [ih, ih, ← ByteArray.append_assoc]
    congr 1
    apply ByteArray.ext
    simp
theorem strOf_append (a b : List Int) : strOf (a ++ b) = strOf a ++ strOf b := by
  show (a ++ b).foldl _ ByteArray.empty = _
  rw [List.foldl_append, strOf_fold]
  rfl
theorem rstr_all (f : List Int) (t : List Int) : ∀ j, j ≤ t.length → rstr (strOf f) t j = strOf (f ++ (t.drop (t.length - j)).reverse)
  | 0, _ => by
    rw [Nat.sub_zero, List.drop_length]
    show strOf f = strOf (f ++ [])
    rw [List.append_nil]
  | j + 1, hj => by
    show rstr (strOf f) t j ++ strOf [t.getD (t.length - 1 - j) 0] = _
    rw [rstr_all f t j (by omega), ← strOf_append, List.append_assoc]
    congr 2
    rw [show t.length - (j + 1) = t.length - 1 - j by omega, List.drop_eq_getElem_cons (i := t.length - 1 - j) (by omega), List.reverse_cons, show t.length - 1 - j + 1 = t.length - j by omega]
    rw [List.getD_eq_getElem?_getD, List.getElem?_eq_getElem (by omega)]
    rfl
theorem or_byte {y : Int} {w : Nat} (h0 : 0 ≤ y) (h1 : y < 256) (hw : w < 256) : orB y w = ((y.toNat ||| w : Nat) : Int) := by
  obtain ⟨a, rfl⟩ := Int.eq_ofNat_of_zero_le h0
  unfold orB
  rw [nwrap8 hw, Int.toNat_natCast, ofInt_nat, ofInt_nat, BitVec.toNat_or, BitVec.toNat_ofNat, BitVec.toNat_ofNat]
  rw [Nat.mod_eq_of_lt (by show a < 2 ^ 8; omega), Nat.mod_eq_of_lt (by show w < 2 ^ 8; omega)]
  exact nwrap8 (Nat.or_lt_two_pow (n := 8) (by omega) (by omega))
theorem rdone_done {e : EncS} {N : Nat} (h : e.inv N) : e.rdone = strOf e.done := by
  have hlow := h.ok.low
  have hbig := h.big
  have hhi := h.ok.hi
  have hl1 := le_len (n := e.rng) (k := 23) (by omega)
  have hl2 := len_le (n := e.rng) (k := 32) (by omega)
  obtain ⟨q, k1, k2, k3⟩ := len_spec (n := e.rng) (by omega)
  have hend : ∀ k, k ≤ q → e.rend k = (e.low + (2 ^ k - 1)) / 2 ^ k * 2 ^ k := by
    intro k hk
    have hp : 2 ^ k ≤ 2 ^ q := Nat.pow_le_pow_right (by omega) hk
    unfold EncS.rend
    rw [Nat.mod_eq_of_lt (by omega)]
  have hK : e.rcutK = e.cutK := by
    unfold EncS.rcutK EncS.cutK
    rw [k1, hend _ (by omega), Nat.mod_eq_of_lt (a := e.low + e.rng) (by omega)]
  have hKq : e.cutK ≤ q := by
    unfold EncS.cutK
    rw [k1]
    split <;> omega
  have hE : e.rend e.rcutK = e.ends := by
    rw [hK, hend _ hKq]
    rfl
  have hO : e.routs = e.outs := by
    unfold EncS.routs EncS.outs
    rw [hK]
  have hF : e.rflush = e.flush := by
    unfold EncS.rflush EncS.flush
    rw [hE, hO]
  have hL : e.rleft = e.left := by
    unfold EncS.rleft EncS.left
    rw [hK, hO]
  have hla : e.rlast = e.last := by
    unfold EncS.rlast EncS.last
    rw [hF]
  obtain ⟨_, b, c, d, hb⟩ := EncS.last_facts h
  have hlf := (EncS.flush_facts h).2.2.2.2.2
  have hw := h.ok.win
  have hn := h.ok.nend
  have hfree : e.free = (-e.left).toNat := rfl
  have hm : e.last.more e.free = bif decide (0 < e.last.nend) then (bif decide (e.last.buf.length = 0) then true else decide (e.free < e.last.nend)) else false := rfl
  unfold EncS.rdone
  rw [hla, hL]
  have hdn : e.done = if e.last.nend = 0 then e.base else bif e.last.more e.free then e.base.set e.last.buf.length e.last.win else e.base.set (e.last.buf.length - 1) (((e.base.getD (e.last.buf.length - 1) 0).toNat ||| e.last.win : Nat) : Int) := rfl
  have hbs : e.base = e.last.buf ++ List.replicate (bif e.last.more e.free then 1 else 0) 0 ++ e.last.tail.reverse := rfl
  rw [hdn, hbs]
  rw [← c, ← d] at hw
  rw [← d] at hn
  generalize e.last = f at *
  have hp : 2 ^ f.nend ≤ 2 ^ 7 := Nat.pow_le_pow_right (by omega) hn
  have fin : ∀ g : EncS, rstr (strOf g.buf) g.tail g.tail.length = strOf (g.buf ++ g.tail.reverse) := by
    intro g
    rw [rstr_all _ _ _ (Nat.le_refl _), Nat.sub_self, List.drop_zero]
  rw [fin]
  unfold EncS.rmerge
  by_cases c0 : f.nend = 0
  · rw [if_pos c0, if_pos c0]
    rw [decide_eq_false (by omega)] at hm
    rw [hm]
    show _ = strOf (f.buf ++ [] ++ f.tail.reverse)
    rw [List.append_nil]
  · rw [if_neg c0, if_neg c0]
    rw [decide_eq_true (by omega)] at hm
    by_cases c1 : 0 < f.buf.length ∧ (f.nend : Int) ≤ -e.left
    · rw [if_pos c1]
      rw [decide_eq_false (by omega), decide_eq_false (by omega)] at hm
      have hbase : f.buf ++ List.replicate (bif f.more e.free then 1 else 0) 0 ++ f.tail.reverse = f.buf ++ f.tail.reverse := by
        rw [hm]
        show f.buf ++ [] ++ f.tail.reverse = _
        rw [List.append_nil]
      rw [hbase, hm]
      show strOf (f.buf.set _ _ ++ f.tail.reverse) = strOf ((f.buf ++ f.tail.reverse).set _ _)
      rw [List.set_append_left _ _ (by omega)]
      congr 3
      obtain ⟨x, hx⟩ : ∃ x, f.buf[f.buf.length - 1]? = some x := ⟨_, List.getElem?_eq_getElem (by omega)⟩
      have hxb := hb x (List.mem_of_getElem? hx)
      rw [List.getD_eq_getElem?_getD, List.getD_eq_getElem?_getD, List.getElem?_append_left (by omega), hx]
      exact or_byte hxb.1 hxb.2 (by omega)
    · rw [if_neg c1]
      have hm2 : f.more e.free = true := by
        rw [hm]
        by_cases c2 : f.buf.length = 0
        · rw [decide_eq_true c2]
          rfl
        · rw [decide_eq_false c2]
          exact decide_eq_true (by omega)
      rw [hm2]
      show strOf (f.buf ++ (f.tail ++ [IntKind.u8.wrap f.win]).reverse) = strOf ((f.buf ++ [0] ++ f.tail.reverse).set _ _)
      rw [nwrap8 (by omega), List.reverse_append, List.append_assoc, List.set_append_right _ _ (Nat.le_refl _), Nat.sub_self]
      rfl
end Go.Proofs.Ytkomikpfnogjcaa
