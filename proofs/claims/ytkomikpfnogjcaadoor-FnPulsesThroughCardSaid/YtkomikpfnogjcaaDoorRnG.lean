/- The encoder's bytes. -/
import Derived.Test.YtkomikpfnogjcaaDoorRnF
namespace Go.Proofs.YtkomikpfnogjcaaDoor
open Go Go.Vc
set_option maxRecDepth 100000

def EncS.more (e : EncS) (n : Nat) : Bool := bif decide (0 < e.nend) then (bif decide (e.buf.length = 0) then true else decide (n < e.nend)) else false
theorem shouldG (w0 : World) (e : EncS) (n : Nat) : CallsA Tryd.prog w0 46 [.c (.ptr 0 0), .c (.val (.int .u64 n))] e.H fun r H' => r = .o (.c (.val (.bool (e.more n)))) ∧ H' = e.H := by
  have hm : e.more n = bif decide (0 < e.nend) then (bif decide (e.buf.length = 0) then true else decide (n < e.nend)) else false := rfl
  generalize e.more n = b at *
  refine callsA_of_ev c46_ ?_
  conv => whnf
  refine ⟨fun h1 => ?_, fun h1 => ?_⟩
  · have h1 := gt_t h1
    rw [decide_eq_true h1] at hm
    conv => whnf
    refine ⟨fun h2 => ?_, fun h2 => ?_⟩
    · have h2 : e.buf.length = 0 := beq_t h2
      rw [decide_eq_true h2] at hm
      subst hm
      conv => whnf
      exact Or.inl ⟨rfl, rfl⟩
    · have h2 : e.buf.length ≠ 0 := beq_f h2
      rw [decide_eq_false h2] at hm
      have hm : b = decide (n < e.nend) := hm
      subst hm
      conv => whnf
      refine Or.inl ⟨?_, rfl⟩
      have : decide ((e.nend : Int) > (n : Int)) = decide (n < e.nend) := by
        by_cases h : n < e.nend
        · rw [decide_eq_true h]
          exact decide_eq_true (by omega)
        · rw [decide_eq_false h]
          exact decide_eq_false (by omega)
      rw [this]
      rfl
  · have h1 : e.nend ≤ 0 := gt_f h1
    rw [decide_eq_false (by omega)] at hm
    subst hm
    conv => whnf
    exact Or.inl ⟨rfl, rfl⟩

def EncS.last (e : EncS) : EncS := if 0 ≤ e.flush.rem ∨ 0 < e.flush.ext then e.flush.carry 0 else e.flush
def EncS.free (e : EncS) : Nat := (-e.left).toNat
def EncS.base (e : EncS) : List Int := e.last.buf ++ List.replicate (bif e.last.more e.free then 1 else 0) 0 ++ e.last.tail.reverse
def EncS.done (e : EncS) : List Int :=
  if e.last.nend = 0 then e.base
  else bif e.last.more e.free then e.base.set e.last.buf.length e.last.win
  else e.base.set (e.last.buf.length - 1) (((e.base.getD (e.last.buf.length - 1) 0).toNat ||| e.last.win : Nat) : Int)

theorem EncS.outIter_rest (e : EncS) (n : Nat) : ∀ k, (e.outIter n k).1.tail = e.tail ∧ (e.outIter n k).1.win = e.win ∧ (e.outIter n k).1.nend = e.nend
  | 0 => ⟨rfl, rfl, rfl⟩
  | k + 1 => by
    obtain ⟨a, b, c⟩ := EncS.outIter_rest e n k
    obtain ⟨d, f, g, _⟩ := carry_rest (e.outIter n k).1 ((e.outIter n k).2 / 8388608)
    exact ⟨d.trans a, f.trans b, g.trans c⟩
theorem EncS.outIter_bytes {e : EncS} {n : Nat} (h : ∀ x ∈ e.buf, 0 ≤ x ∧ x < 256) : ∀ k, ∀ x ∈ (e.outIter n k).1.buf, 0 ≤ x ∧ x < 256
  | 0 => h
  | k + 1 => carry_bytes (EncS.outIter_bytes h k)
theorem EncS.flush_facts {e : EncS} {N : Nat} (h : e.inv N) : e.flush.plain (N + 2) ∧ e.flush.tail = e.tail ∧ e.flush.win = e.win ∧ e.flush.nend = e.nend ∧ (∀ x ∈ e.flush.buf, 0 ≤ x ∧ x < 256) ∧ -7 ≤ e.left ∧ e.left ≤ 0 := by
  obtain ⟨q1, q2, q3⟩ := EncS.cutK_spec h
  have hO : e.outs ≤ 2 := by
    unfold EncS.outs
    omega
  have h1 := (EncS.outIter_facts h.ok.plain q3 e.outs).1
  obtain ⟨a, b, c⟩ := e.outIter_rest e.ends e.outs
  refine ⟨⟨h1.1, h1.2.1, by have := h1.2.2; show (e.outIter e.ends e.outs).1.ext + (e.outIter e.ends e.outs).1.buf.length ≤ _; omega⟩, a, b, c, EncS.outIter_bytes h.ok.bb _, ?_, ?_⟩
  · unfold EncS.left EncS.outs
    omega
  · unfold EncS.left EncS.outs
    omega
theorem EncS.last_facts {e : EncS} {N : Nat} (h : e.inv N) : e.last.plain (N + 3) ∧ e.last.tail = e.tail ∧ e.last.win = e.win ∧ e.last.nend = e.nend ∧ (∀ x ∈ e.last.buf, 0 ≤ x ∧ x < 256) := by
  obtain ⟨a, b, c, d, f, _⟩ := EncS.flush_facts h
  unfold EncS.last
  split
  · obtain ⟨g, i, j, _⟩ := carry_rest e.flush 0
    exact ⟨EncS.carry_plain a, g.trans b, i.trans c, j.trans d, carry_bytes f⟩
  · exact ⟨⟨a.1, a.2.1, by have := a.2.2; omega⟩, b, c, d, f⟩

theorem set_rev {a r : List Int} {m i : Nat} {x : Int} (hi : i = a.length + m) : (a ++ List.replicate (m + 1) 0 ++ r).set i x = a ++ List.replicate m 0 ++ (x :: r) := by
  subst hi
  rw [List.append_assoc, List.set_append_right _ _ (by omega), List.set_append_left _ _ (by simp only [List.length_replicate]; omega), Nat.add_sub_cancel_left, List.replicate_succ', List.set_append_right _ _ (by simp)]
  simp
/-- How the bytes fill up from the end. -/
def outAt (a t : List Int) (x k : Nat) : List Int := a ++ List.replicate (x + t.length - k) 0 ++ (t.take k).reverse
theorem outAt_len {a t : List Int} {x k : Nat} (h : k ≤ t.length) : (outAt a t x k).length = a.length + x + t.length := by
  unfold outAt
  simp only [List.length_append, List.length_replicate, List.length_reverse, List.length_take]
  omega
theorem outAt_set {a t : List Int} {x k i : Nat} {v : Int} (h : t[k]? = some v) (hi : i = a.length + x + t.length - 1 - k) : (outAt a t x k).set i v = outAt a t x (k + 1) := by
  obtain ⟨hk, hv⟩ := List.getElem?_eq_some_iff.1 h
  unfold outAt
  rw [show x + t.length - k = (x + t.length - (k + 1)) + 1 by omega, set_rev (by omega), ← take_snoc' h, List.reverse_append]
  rfl
theorem outAt_last {a t : List Int} {x : Nat} : outAt a t x t.length = a ++ List.replicate x 0 ++ t.reverse := by
  unfold outAt
  rw [Nat.add_sub_cancel, List.take_length]

theorem nor8 {a b : Nat} (ha : a < 256) (hb : b < 256) : IntKind.u8.wrap (((BitVec.ofInt IntKind.u8.bits (a : Int) ||| BitVec.ofInt IntKind.u8.bits (b : Int)).toNat : Nat) : Int) = ((a ||| b : Nat) : Int) := by
  rw [ofInt_nat, ofInt_nat, BitVec.toNat_or, BitVec.toNat_ofNat, BitVec.toNat_ofNat]
  rw [Nat.mod_eq_of_lt (by simpa [IntKind.bits] using ha), Nat.mod_eq_of_lt (by simpa [IntKind.bits] using hb)]
  exact nwrap8 (Nat.or_lt_two_pow (n := 8) ha hb)
theorem EncS.embM6 {e : EncS} {H : List Blk} {e0 env : Env} {xs : List Int} (h0 : H[0]? = some (e.blk 3 4)) (h3 : H[3]? = some (byteBlk e.buf)) (h4 : H[4]? = some (byteBlk e.tail)) (h5 : H[5]? = some (byteBlk xs)) (hl : 3 ≤ H.length) (he : embE [0, 1, 2, 3, 4, 5] env e0) : EmbS 3 ⟨e0, e.M ++ [byteBlk xs]⟩ ⟨env, H⟩ :=
  ⟨[0, 1, 2, 3, 4, 5], ⟨rfl, ⟨h0, rfl, by show 1 < H.length; omega, by show 2 < H.length; omega, h3, rfl, h4, rfl, h5, rfl, trivial⟩, rfl⟩, he⟩
theorem doneW (w0 : World) (e : EncS) {N : Nat} (hN : N ≤ 1048300) (h : e.inv N) : CallsA Tryd.prog w0 25 [.c (.ptr 0 0)] e.H fun r H => r = .o (.c (.vec 3 e.done.length)) ∧ H = [.dead, .dead, .dead, byteBlk e.done] := by
  obtain ⟨fl1, fl2, fl3, fl4, fl5, fl6, fl7⟩ := EncS.flush_facts h
  obtain ⟨l1, l2, l3, l4, l5⟩ := EncS.last_facts h
  have hlast : e.last = if 0 ≤ e.flush.rem ∨ 0 < e.flush.ext then e.flush.carry 0 else e.flush := rfl
  have hD : e.done = if e.last.nend = 0 then e.base
    else bif e.last.more e.free then e.base.set e.last.buf.length e.last.win
    else e.base.set (e.last.buf.length - 1) (((e.base.getD (e.last.buf.length - 1) 0).toNat ||| e.last.win : Nat) : Int) := rfl
  have hB : e.base = e.last.buf ++ List.replicate (bif e.last.more e.free then 1 else 0) 0 ++ e.last.tail.reverse := rfl
  have hF : e.free = (-e.left).toNat := rfl
  have htl := h.ok.tail
  have hnend := h.ok.nend
  have hwin := h.ok.win
  rw [← l2] at htl
  rw [← l4] at hnend
  rw [← l3, ← l4] at hwin
  generalize e.done = D at *
  generalize e.base = B at *
  refine callsA_of_ev c25_ ?_
  conv => whnf
  refine (flushW w0 e (by omega) h).mono ?_
  rintro _ _ ⟨rfl, rfl⟩
  conv => whnf
  refine Or.inr ⟨Unit, fun _ => ⟨[(0, .o (.c (.ptr 0 0))), (3, .o (.c (.val (.int .i64 e.left))))], e.last.M⟩, ?_, fun _ => ?_⟩
  · generalize e.last = q at *
    generalize e.left = lf at *
    have hcar : 0 ≤ e.flush.rem ∨ 0 < e.flush.ext → CallsA Tryd.prog w0 44 [.c (.ptr 0 0), .c (.val (.int .i64 ((0 : Nat) : Int)))] e.flush.M fun r H => r = .t [] ∧ H = q.M2 := by
      intro hc
      rw [if_pos hc] at hlast
      subst hlast
      refine CallsA.lift (H0 := e.flush.H) [0, 3, 4] rfl ⟨rfl, rfl, rfl, rfl, rfl, rfl, trivial⟩ rfl (carryW w0 e.flush (N := N + 2) (by omega) fl1 (v := 0) (by omega)) ?_
      rintro _ _ ⟨rfl, rfl⟩
      exact ⟨rfl, rfl⟩
    generalize e.flush = f at *
    conv => whnf
    refine ⟨fun c1 => ?_, fun c1 => ?_⟩
    · have c1 : 0 ≤ f.rem := of_decide_eq_true c1
      conv => whnf
      refine (hcar (.inl c1)).mono ?_
      rintro _ _ ⟨rfl, rfl⟩
      conv => whnf
      exact ⟨(), EncS.embM 5 6 rfl rfl rfl (Nat.le_of_ble_eq_true rfl) rfl ⟨rfl, rfl, trivial⟩⟩
    · have c1 : ¬ 0 ≤ f.rem := of_decide_eq_false c1
      conv => whnf
      refine ⟨fun c2 => ?_, fun c2 => ?_⟩
      · have c2 : 0 < f.ext := gt_t c2
        conv => whnf
        refine (hcar (.inr c2)).mono ?_
        rintro _ _ ⟨rfl, rfl⟩
        conv => whnf
        exact ⟨(), EncS.embM 5 6 rfl rfl rfl (Nat.le_of_ble_eq_true rfl) rfl ⟨rfl, rfl, trivial⟩⟩
      · have c2 : f.ext ≤ 0 := gt_f c2
        rw [if_neg (by omega)] at hlast
        conv => whnf
        rw [hlast]
        exact ⟨(), EncS.embM 3 4 rfl rfl rfl (Nat.le_of_ble_eq_true rfl) rfl ⟨rfl, rfl, trivial⟩⟩
  · clear hlast fl1 fl2 fl3 fl4 fl5
    generalize e.last = q at *
    generalize e.left = lf at *
    generalize e.free = fr at *
    conv => whnf
    refine Or.inr ⟨Unit, fun _ => ⟨[(0, .o (.c (.ptr 0 0))), (4, .o (.c (.val (.int .u64 fr))))], q.M⟩, ?_, fun _ => ?_⟩
    · conv => whnf
      refine ⟨fun c1 => ?_, fun c1 => ?_⟩
      · have c1 : lf < 0 := of_decide_eq_true c1
        conv => whnf
        refine ⟨(), EncS.embM 3 4 rfl rfl rfl (Nat.le_of_ble_eq_true rfl) rfl ⟨rfl, eq_u64 ?_, trivial⟩⟩
        rw [IntKind.wrap_i64, IntKind.wrap_u64]
        omega
      · have c1 : ¬ lf < 0 := of_decide_eq_false c1
        conv => whnf
        refine ⟨(), EncS.embM 3 4 rfl rfl rfl (Nat.le_of_ble_eq_true rfl) rfl ⟨rfl, eq_u64 ?_, trivial⟩⟩
        omega
    · conv => whnf
      refine CallsA.lift (H0 := q.H) [0, 3, 4] rfl ⟨rfl, rfl, rfl, rfl, rfl, rfl, trivial⟩ rfl (shouldG w0 q fr) ?_
      rintro _ _ ⟨rfl, rfl⟩
      generalize hmo : q.more fr = mo at *
      conv => whnf
      refine ⟨⟨⟨rfl, rfl⟩, ⟨rfl, rfl⟩, trivial⟩, ?_⟩
      conv => whnf
      refine (boolToIntW w0 _ mo).mono ?_
      rintro _ _ ⟨rfl, rfl⟩
      have hx : (bif mo then (1 : Int) else 0) = ((bif mo then 1 else 0 : Nat) : Int) := by cases mo <;> rfl
      have hx1 : (bif mo then 1 else 0 : Nat) ≤ 1 := by cases mo <;> decide
      rw [hx]
      have hbl := l1.2.2
      conv => whnf
      refine ⟨⟨⟨rfl, rfl⟩, ⟨rfl, rfl⟩, trivial⟩, ?_⟩
      conv => whnf
      generalize hxx : (bif mo then 1 else 0 : Nat) = x at *
      have hn : IntKind.i64.wrap (IntKind.i64.wrap (((q.buf.length : Nat) : Int) + ((q.tail.length : Nat) : Int)) + ((x : Nat) : Int)) = ((q.buf.length + q.tail.length + x : Nat) : Int) := by
        rw [nadd, nwrapi (n := q.buf.length + q.tail.length) (by omega), nadd, nwrapi (by omega)]
      rw [hn]
      refine ⟨by omega, ?_⟩
      conv => whnf
      refine ⟨Int, encI .u8, [], 0, fun _ => rfl, rfl, ?_⟩
      conv => whnf
      refine ⟨by first | exact trivial | exact ⟨⟨rfl, rfl⟩, trivial⟩ | exact ⟨⟨rfl, rfl⟩, ⟨rfl, rfl⟩, trivial⟩, ?_⟩
      conv => whnf
      refine ⟨List.length_replicate.symm, q.buf, ⟨rfl, Nat.le_refl _, rfl, by rw [List.take_length]⟩, by omega, ?_⟩
      conv => whnf
      refine Or.inr ⟨Unit, fun _ => ⟨[(0, .o (.c (.ptr 0 0))), (4, .o (.c (.val (.int .u64 fr)))), (5, .o (.c (.vec 5 (q.buf.length + q.tail.length + x))))], q.M ++ [byteBlk B]⟩, ?_, fun _ => ?_⟩
      · conv => whnf
        have hent : q.buf ++ (List.replicate (((q.buf.length + q.tail.length + x : Nat) : Int)).toNat (0 : Int)).drop q.buf.length = outAt q.buf q.tail x 0 := by
          unfold outAt
          rw [List.drop_replicate, List.take_zero, List.reverse_nil, List.append_nil, Int.toNat_natCast]
          congr 2
          omega
        refine ⟨_root_.Fin (q.tail.length + 1), fun ⟨k, _⟩ => ⟨[(0, .o (.c (.ptr 0 0))), (4, .o (.c (.val (.int .u64 fr)))), (5, .o (.c (.vec 5 (q.buf.length + q.tail.length + x)))), (56, .o (.c (.vec 4 q.tail.length))), (57, .o (.c (.val (.int .i64 (q.tail.length : Nat))))), (58, .o (.c (.val (.int .i64 (k : Nat)))))], q.M ++ [byteBlk (outAt q.buf q.tail x k)]⟩, fun k => q.tail.length - k.1, ⟨⟨0, by omega⟩, EncS.embM6 rfl rfl rfl (by rw [← hent]; rfl) (Nat.le_of_ble_eq_true rfl) ⟨rfl, rfl, rfl, rfl, rfl, rfl, trivial⟩⟩, fun ⟨k, hk⟩ => ?_⟩
        have hol := outAt_len (a := q.buf) (x := x) (show k ≤ q.tail.length by omega)
        conv => whnf
        refine ⟨fun c1 => ?_, fun c1 => ?_⟩
        · have c1 : k < q.tail.length := lt_t c1
          obtain ⟨v, hv⟩ : ∃ v, q.tail[k]? = some v := ⟨_, List.getElem?_eq_getElem c1⟩
          have hset := outAt_set (a := q.buf) (x := x) (i := q.buf.length + x + q.tail.length - 1 - k) hv rfl
          obtain ⟨y, hy⟩ : ∃ y, (outAt q.buf q.tail x k)[q.buf.length + x + q.tail.length - 1 - k]? = some y := ⟨_, List.getElem?_eq_getElem (by omega)⟩
          have hi : IntKind.i64.wrap (IntKind.i64.wrap (((q.buf.length + q.tail.length + x : Nat) : Int) - ((1 : Nat) : Int)) - ((k : Nat) : Int)) = ((q.buf.length + x + q.tail.length - 1 - k : Nat) : Int) := by
            rw [nsub (by omega), nwrapi (n := q.buf.length + q.tail.length + x - 1) (by omega), nsub (by omega), nwrapi (by omega)]
            omega
          conv => whnf
          refine ⟨by omega, ?_⟩
          conv => whnf
          refine ⟨v, hv, ?_⟩
          conv => whnf
          rw [hi]
          refine ⟨by omega, ?_⟩
          conv => whnf
          refine ⟨y, v, hy, rfl, ?_⟩
          conv => whnf
          refine ⟨⟨k + 1, by omega⟩, EncS.embM6 rfl rfl rfl (by rw [← hset]; rfl) (Nat.le_of_ble_eq_true rfl) ⟨rfl, rfl, rfl, rfl, rfl, eq_i64 ?_, trivial⟩, ?_⟩
          · rw [nadd, nwrapi (by omega)]
          · show q.tail.length - (k + 1) < q.tail.length - k
            omega
        · have c1 : q.tail.length ≤ k := lt_f c1
          obtain rfl : k = q.tail.length := by omega
          conv => whnf
          exact ⟨(), EncS.embM6 rfl rfl rfl (by rw [hB, ← outAt_last]; rfl) (Nat.le_of_ble_eq_true rfl) ⟨rfl, rfl, rfl, trivial⟩⟩
      · have hBl : B.length = q.buf.length + q.tail.length + x := by
          rw [hB]
          simp only [List.length_append, List.length_replicate, List.length_reverse]
          omega
        have hBb : ∀ y ∈ B, 0 ≤ y ∧ y < 256 := by
          rw [hB]
          intro y hy
          rcases List.mem_append.1 hy with hy | hy
          · rcases List.mem_append.1 hy with hy | hy
            · exact l5 y hy
            · rw [List.eq_of_mem_replicate hy]
              omega
          · rw [l2] at hy
            exact h.ok.tb y (List.mem_reverse.1 hy)
        clear hB
        conv => whnf
        refine Or.inl ?_
        conv => whnf
        refine ⟨fun c1 => ?_, fun c1 => ?_⟩
        · have c1 : 0 < q.nend := gt_t c1
          rw [if_neg (by omega)] at hD
          conv => whnf
          refine (bitMaskW w0 _ (n := q.nend) (by omega)).mono ?_
          rintro _ _ ⟨rfl, rfl⟩
          have hp : 2 ^ q.nend ≤ 2 ^ 7 := Nat.pow_le_pow_right (by omega) hnend
          have hp0 : 1 ≤ 2 ^ q.nend := Nat.one_le_two_pow
          conv => whnf
          refine ⟨by first | exact trivial | exact ⟨⟨rfl, rfl⟩, trivial⟩, ?_⟩
          conv => whnf
          have hw : IntKind.u8.wrap (IntKind.u64.wrap ((BitVec.ofInt IntKind.u64.bits (q.win : Int) &&& BitVec.ofInt IntKind.u64.bits (IntKind.u64.wrap ((2 ^ q.nend - 1 : Nat) : Int))).toNat : Nat)) = ((q.win : Nat) : Int) := by
            rw [nwrap64 (n := 2 ^ q.nend - 1) (by omega), nand64 (by omega) (by omega), nand_mask, Nat.mod_eq_of_lt hwin, nwrap8 (by omega)]
          rw [hw]
          refine CallsA.lift (H0 := q.H) [0, 3, 4] rfl ⟨rfl, rfl, rfl, rfl, rfl, rfl, trivial⟩ rfl (shouldG w0 q fr) ?_
          rintro _ _ ⟨rfl, rfl⟩
          rw [hmo]
          have hmd : q.more fr = bif decide (0 < q.nend) then (bif decide (q.buf.length = 0) then true else decide (fr < q.nend)) else false := rfl
          rw [hmo, decide_eq_true c1] at hmd
          have hxm : (bif mo then 1 else 0) = x := hxx
          clear hx hmo
          conv => whnf
          refine ⟨fun c2 => ?_, fun c2 => ?_⟩
          · subst c2
            have hx1' : x = 1 := hxm.symm
            have hD : D = B.set q.buf.length q.win := hD
            obtain ⟨y, hy⟩ : ∃ y, B[q.buf.length]? = some y := ⟨_, List.getElem?_eq_getElem (by omega)⟩
            conv => whnf
            refine ⟨by omega, ?_⟩
            conv => whnf
            refine ⟨y, q.win, hy, rfl, ?_⟩
            conv => whnf
            rw [← hBl]
            refine Or.inr ⟨[0, 1, 2, 5], .o (.c (.vec 3 D.length)), [.dead, .dead, .dead, byteBlk D], ⟨rfl, ⟨Nat.le_of_ble_eq_true rfl, Nat.le_of_ble_eq_true rfl, Nat.le_of_ble_eq_true rfl, ?_, rfl, trivial⟩, rfl⟩, ?_, rfl, rfl⟩
            · rw [hD]
              rfl
            · rw [hD, List.length_set]
              rfl
          · subst c2
            have hx1' : x = 0 := hxm.symm
            have hD : D = B.set (q.buf.length - 1) (((B.getD (q.buf.length - 1) 0).toNat ||| q.win : Nat) : Int) := hD
            have hne : q.buf.length ≠ 0 := by
              intro h0
              rw [decide_eq_true h0] at hmd
              cases hmd
            obtain ⟨y, hy⟩ : ∃ y, B[q.buf.length - 1]? = some y := ⟨_, List.getElem?_eq_getElem (by omega)⟩
            have hyb := hBb y (List.mem_of_getElem? hy)
            obtain ⟨m, rfl⟩ := nat_of hyb.1
            rw [List.getD_eq_getElem?_getD, hy] at hD
            have hD : D = B.set (q.buf.length - 1) ((m ||| q.win : Nat) : Int) := hD
            conv => whnf
            rw [nsub (a := q.buf.length) (b := 1) (by omega), nwrapi (n := q.buf.length - 1) (by omega)]
            refine ⟨by omega, ?_⟩
            conv => whnf
            refine ⟨_, hy, ?_⟩
            conv => whnf
            rw [nor8 (a := m) (b := q.win) (by omega) (by omega)]
            refine ⟨by omega, ?_⟩
            conv => whnf
            refine ⟨_, ((m ||| q.win : Nat) : Int), hy, rfl, ?_⟩
            conv => whnf
            rw [← hBl]
            refine Or.inr ⟨[0, 1, 2, 5], .o (.c (.vec 3 D.length)), [.dead, .dead, .dead, byteBlk D], ⟨rfl, ⟨Nat.le_of_ble_eq_true rfl, Nat.le_of_ble_eq_true rfl, Nat.le_of_ble_eq_true rfl, ?_, rfl, trivial⟩, rfl⟩, ?_, rfl, rfl⟩
            · rw [hD]
              rfl
            · rw [hD, List.length_set]
              rfl
        · have c1 : q.nend ≤ 0 := gt_f c1
          rw [if_pos (by omega)] at hD
          subst hD
          conv => whnf
          rw [← hBl]
          exact Or.inr ⟨[0, 1, 2, 5], .o (.c (.vec 3 D.length)), [.dead, .dead, .dead, byteBlk D], ⟨rfl, ⟨Nat.le_of_ble_eq_true rfl, Nat.le_of_ble_eq_true rfl, Nat.le_of_ble_eq_true rfl, rfl, rfl, trivial⟩, rfl⟩, rfl, rfl, rfl⟩
end Go.Proofs.YtkomikpfnogjcaaDoor
