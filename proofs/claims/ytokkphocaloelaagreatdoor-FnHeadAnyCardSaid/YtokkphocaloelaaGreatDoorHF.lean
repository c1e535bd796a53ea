/- Joined: PgW, PgX, PgY, PgZ, RwLaidH, RwPages, PgS, PhD, PhB, PhA, RmC, PhC, PgT, PhE, PhF. -/
import Derived.Test.YtokkphocaloelaaGreatDoorHE
section
namespace Go.Proofs.YtokkphocaloelaaGreatDoor
open Go Go.Vc
set_option maxRecDepth 100000
set_option maxHeartbeats 8000000

theorem nandn1' {i : Nat} (h : i < 4611686018427387904) : (BitVec.ofInt 64 (i : Int) &&& ~~~BitVec.ofInt 64 ((1 : Nat) : Int)).toNat = i / 2 * 2 := by
 rw [BitVec.toNat_and, BitVec.toNat_not, BitVec.toNat_ofInt, BitVec.toNat_ofInt]
 have e1 : (((i : Nat) : Int) % ((2 ^ 64 : Nat) : Int)).toNat = i := by omega
 have e2 : 2 ^ 64 - 1 - ((((1 : Nat) : Int) % ((2 ^ 64 : Nat) : Int)).toNat) = 18446744073709551614 := by decide
 rw [e1, e2]
 apply Nat.eq_of_testBit_eq
 intro j
 cases j with
 | zero => rw [Nat.testBit_and, Nat.testBit_zero, Nat.testBit_zero, Nat.testBit_zero, Nat.mul_mod_left]; simp
 | succ j =>
   rw [Nat.testBit_and, Nat.testBit_succ, Nat.testBit_succ, Nat.testBit_succ, Nat.mul_div_left _ (by decide), show 18446744073709551614 / 2 = 2 ^ 63 - 1 by decide, Nat.testBit_two_pow_sub_one]
   by_cases hj : j < 63
   · simp [hj]
   · have : (i / 2).testBit j = false := Nat.testBit_lt_two_pow (Nat.lt_of_lt_of_le (show i / 2 < 2 ^ 63 by omega) (Nat.pow_le_pow_right (by decide) (by omega)))
     rw [this]
     rfl
theorem nor1' {i : Nat} (h : i < 4611686018427387904) : (BitVec.ofInt 64 (i : Int) ||| BitVec.ofInt 64 ((1 : Nat) : Int)).toNat = i / 2 * 2 + 1 := by
 rw [BitVec.toNat_or, BitVec.toNat_ofInt, BitVec.toNat_ofInt]
 have e1 : (((i : Nat) : Int) % ((2 ^ 64 : Nat) : Int)).toNat = i := by omega
 have e2 : ((((1 : Nat) : Int) % ((2 ^ 64 : Nat) : Int)).toNat) = 1 := by decide
 rw [e1, e2]
 apply Nat.eq_of_testBit_eq
 intro j
 cases j with
 | zero => rw [Nat.testBit_or, Nat.testBit_zero, Nat.testBit_zero, Nat.testBit_zero]; simp
 | succ j =>
   rw [Nat.testBit_or, Nat.testBit_succ, Nat.testBit_succ, Nat.testBit_succ, show (i / 2 * 2 + 1) / 2 = i / 2 by omega]
   simp
theorem and15 {w : Nat} (hw : 4 ≤ w) (x : BitVec w) : (x &&& BitVec.ofInt w ((15 : Nat) : Int)).toNat < 16 := by
 rw [BitVec.toNat_and, BitVec.toNat_ofInt]
 have h2 : (2 : Nat) ^ 4 ≤ 2 ^ w := Nat.pow_le_pow_right (by decide) hw
 have : (((15 : Nat) : Int) % ((2 ^ w : Nat) : Int)).toNat = 15 := by
   rw [Int.emod_eq_of_lt (by omega) (by omega)]
   rfl
 rw [this]
 exact Nat.lt_of_le_of_lt Nat.and_le_right (by decide)
theorem nandn1 {i : Nat} (h : i < 4611686018427387904) : IntKind.i64.wrap (((BitVec.ofInt IntKind.i64.bits (i : Int) &&& ~~~BitVec.ofInt IntKind.i64.bits ((1 : Nat) : Int)).toNat : Nat) : Int) = ((i / 2 * 2 : Nat) : Int) := by
 have e : (BitVec.ofInt IntKind.i64.bits (i : Int) &&& ~~~BitVec.ofInt IntKind.i64.bits ((1 : Nat) : Int)).toNat = i / 2 * 2 := nandn1' h
 rw [e, nwrapi (by omega)]
theorem nor1 {i : Nat} (h : i < 4611686018427387904) : IntKind.i64.wrap (((BitVec.ofInt IntKind.i64.bits (i : Int) ||| BitVec.ofInt IntKind.i64.bits ((1 : Nat) : Int)).toNat : Nat) : Int) = ((i / 2 * 2 + 1 : Nat) : Int) := by
 have e : (BitVec.ofInt IntKind.i64.bits (i : Int) ||| BitVec.ofInt IntKind.i64.bits ((1 : Nat) : Int)).toNat = i / 2 * 2 + 1 := nor1' h
 rw [e, nwrapi (by omega)]
def slAt (w0 : World) (k : IntKind) (v : Value) (l : List Nat) : Prop := ∃ a c, v = .slice (some a) l.length c ∧ ∀ (i x : Nat), l[i]? = some x → w0.cell? (a.add (i * 1)) = some (.int k (x : Int))
def bsI (l : List Nat) (v : Int) (i j : Nat) : Nat :=
 if i < j then (if ((l.getD (i + (j - i) / 2) 0 : Nat) : Int) < v then bsI l v (i + (j - i) / 2 + 1) j else bsI l v i (i + (j - i) / 2)) else i
termination_by j - i
decreasing_by all_goals omega
theorem bsI_le (l : List Nat) (v : Int) : ∀ (n i j : Nat), j - i ≤ n → i ≤ j → bsI l v i j ≤ j
 | n, i, j, h, hij => by
   rw [bsI]
   split
   · rename_i hlt
     cases n with
     | zero => omega
     | succ n =>
       split
       · exact bsI_le l v n _ _ (by omega) (by omega)
       · exact Nat.le_trans (bsI_le l v n _ _ (by omega) (by omega)) (by omega)
   · exact hij
def bsF (l : List Nat) (v : Int) : Nat := bsI l v 0 l.length
theorem bsF_le (l : List Nat) (v : Int) : bsF l v ≤ l.length := bsI_le l v _ _ _ (Nat.le_refl _) (Nat.zero_le _)
def bsB (l : List Nat) (v : Int) : Bool := bif decide (bsF l v < l.length) then (((l.getD (bsF l v) 0 : Nat) : Int) == v) else false
theorem bs16W (w0 : World) {sv : Value} {l : List Nat} (h : slAt w0 .u16 sv l) (hl : l.length ≤ 65536) (v : Int) :
   CallsA Tryz.prog w0 144 [.c (.val sv), .c (.val (.int .u16 v))] [] fun r H => r = .t [.c (.val (.int .i64 ((bsF l v : Nat) : Int))), .c (.val (.bool (bsB l v)))] ∧ H = [] := by
 obtain ⟨a, c, rfl, hc⟩ := h
 refine callsA_of_ev c144_ ?_
 conv => whnf
 refine Or.inl ?_
 conv => whnf
 refine ⟨{x : Nat × Nat // x.1 ≤ x.2 ∧ x.2 ≤ l.length ∧ bsF l v = bsI l v x.1 x.2}, fun ⟨⟨i, j⟩, _⟩ => ⟨[(0, .o (.c (.val (.slice (some a) l.length c)))), (1, .o (.c (.val (.int .u16 v)))), (6, .o (.c (.val (.int .i64 (l.length : Nat))))), (7, .o (.c (.val (.int .i64 (i : Nat))))), (8, .o (.c (.val (.int .i64 (j : Nat)))))], []⟩, fun x => x.1.2 - x.1.1, ⟨⟨(0, l.length), Nat.zero_le _, Nat.le_refl _, rfl⟩, [], ⟨rfl, trivial, rfl⟩, rfl, rfl, rfl, rfl, rfl, trivial⟩, fun ⟨⟨i, j⟩, h1, h2, h3⟩ => ?_⟩
 simp only at h1 h2 h3
 conv => whnf
 refine ⟨fun g => ?_, fun g => ?_⟩
 · have g : i < j := lt_t g
   obtain ⟨m, hm⟩ : ∃ m, m = i + (j - i) / 2 := ⟨_, rfl⟩
   have em : IntKind.i64.wrap (((i : Nat) : Int) + (IntKind.i64.wrap (((j : Nat) : Int) - ((i : Nat) : Int))).fdiv ((2 : Int) ^ min 1 IntKind.i64.bits)) = ((m : Nat) : Int) := by
     rw [nsub h1, nwrapi (by omega), nshri _ 1 (by decide), nadd, nwrapi (by omega), hm]
   have hml : m < l.length := by omega
   obtain ⟨x, hx⟩ : ∃ x, l[m]? = some x := ⟨_, List.getElem?_eq_getElem hml⟩
   have hst : bsI l v i j = if ((x : Nat) : Int) < v then bsI l v (m + 1) j else bsI l v i m := by
     rw [bsI, if_pos g, ← hm, List.getD_eq_getElem?_getD, hx]
     rfl
   conv => whnf
   rw [em]
   refine ⟨⟨Int.natCast_nonneg m, Int.ofNat_lt.2 hml⟩, ?_⟩
   conv => whnf
   refine ⟨.int .u16 (x : Nat), ?_⟩
   conv => whnf
   refine ⟨hc m x hx, ?_⟩
   conv => whnf
   refine ⟨rfl, ?_⟩
   conv => whnf
   refine ⟨fun g2 => ?_, fun g2 => ?_⟩
   · have g2 : ((x : Nat) : Int) < v := of_decide_eq_true g2
     rw [if_pos g2] at hst
     conv => whnf
     exact ⟨⟨(m + 1, j), by omega, h2, by rw [h3, hst]⟩, ⟨[], ⟨rfl, trivial, rfl⟩, rfl, rfl, rfl, eq_i64 (by rw [nadd, nwrapi (by omega)]), rfl, trivial⟩, by show j - (m + 1) < j - i; omega⟩
   · have g2 : ¬ ((x : Nat) : Int) < v := of_decide_eq_false g2
     rw [if_neg g2] at hst
     conv => whnf
     exact ⟨⟨(i, m), by omega, by omega, by rw [h3, hst]⟩, ⟨[], ⟨rfl, trivial, rfl⟩, rfl, rfl, rfl, rfl, rfl, trivial⟩, by show m - i < j - i; omega⟩
 · have g : j ≤ i := lt_f g
   have hf : bsF l v = i := by rw [h3, bsI, if_neg (by omega)]
   conv => whnf
   refine ⟨fun g2 => ?_, fun g2 => ?_⟩
   · have g2 : i < l.length := lt_t g2
     obtain ⟨x, hx⟩ : ∃ x, l[i]? = some x := ⟨_, List.getElem?_eq_getElem g2⟩
     have hB : bsB l v = (((x : Nat) : Int) == v) := by
       unfold bsB
       rw [hf, decide_eq_true g2, List.getD_eq_getElem?_getD, hx]
       rfl
     conv => whnf
     refine ⟨⟨Int.natCast_nonneg i, Int.ofNat_lt.2 g2⟩, ?_⟩
     conv => whnf
     refine ⟨.int .u16 (x : Nat), ?_⟩
     conv => whnf
     refine ⟨hc i x hx, ?_⟩
     conv => whnf
     refine ⟨rfl, ?_⟩
     conv => whnf
     rw [hf, hB]
     exact Or.inl ⟨rfl, rfl⟩
   · have g2 : l.length ≤ i := lt_f g2
     have hB : bsB l v = false := by
       unfold bsB
       rw [hf, decide_eq_false (show ¬ i < l.length by omega)]
       rfl
     conv => whnf
     rw [hf, hB]
     exact Or.inl ⟨rfl, rfl⟩
theorem bs32W (w0 : World) {sv : Value} {l : List Nat} (h : slAt w0 .u32 sv l) (hl : l.length ≤ 65536) (v : Int) :
   CallsA Tryz.prog w0 145 [.c (.val sv), .c (.val (.int .u32 v))] [] fun r H => r = .t [.c (.val (.int .i64 ((bsF l v : Nat) : Int))), .c (.val (.bool (bsB l v)))] ∧ H = [] := by
 obtain ⟨a, c, rfl, hc⟩ := h
 refine callsA_of_ev c145_ ?_
 conv => whnf
 refine Or.inl ?_
 conv => whnf
 refine ⟨{x : Nat × Nat // x.1 ≤ x.2 ∧ x.2 ≤ l.length ∧ bsF l v = bsI l v x.1 x.2}, fun ⟨⟨i, j⟩, _⟩ => ⟨[(0, .o (.c (.val (.slice (some a) l.length c)))), (1, .o (.c (.val (.int .u32 v)))), (6, .o (.c (.val (.int .i64 (l.length : Nat))))), (7, .o (.c (.val (.int .i64 (i : Nat))))), (8, .o (.c (.val (.int .i64 (j : Nat)))))], []⟩, fun x => x.1.2 - x.1.1, ⟨⟨(0, l.length), Nat.zero_le _, Nat.le_refl _, rfl⟩, [], ⟨rfl, trivial, rfl⟩, rfl, rfl, rfl, rfl, rfl, trivial⟩, fun ⟨⟨i, j⟩, h1, h2, h3⟩ => ?_⟩
 simp only at h1 h2 h3
 conv => whnf
 refine ⟨fun g => ?_, fun g => ?_⟩
 · have g : i < j := lt_t g
   obtain ⟨m, hm⟩ : ∃ m, m = i + (j - i) / 2 := ⟨_, rfl⟩
   have em : IntKind.i64.wrap (((i : Nat) : Int) + (IntKind.i64.wrap (((j : Nat) : Int) - ((i : Nat) : Int))).fdiv ((2 : Int) ^ min 1 IntKind.i64.bits)) = ((m : Nat) : Int) := by
     rw [nsub h1, nwrapi (by omega), nshri _ 1 (by decide), nadd, nwrapi (by omega), hm]
   have hml : m < l.length := by omega
   obtain ⟨x, hx⟩ : ∃ x, l[m]? = some x := ⟨_, List.getElem?_eq_getElem hml⟩
   have hst : bsI l v i j = if ((x : Nat) : Int) < v then bsI l v (m + 1) j else bsI l v i m := by
     rw [bsI, if_pos g, ← hm, List.getD_eq_getElem?_getD, hx]
     rfl
   conv => whnf
   rw [em]
   refine ⟨⟨Int.natCast_nonneg m, Int.ofNat_lt.2 hml⟩, ?_⟩
   conv => whnf
   refine ⟨.int .u32 (x : Nat), ?_⟩
   conv => whnf
   refine ⟨hc m x hx, ?_⟩
   conv => whnf
   refine ⟨rfl, ?_⟩
   conv => whnf
   refine ⟨fun g2 => ?_, fun g2 => ?_⟩
   · have g2 : ((x : Nat) : Int) < v := of_decide_eq_true g2
     rw [if_pos g2] at hst
     conv => whnf
     exact ⟨⟨(m + 1, j), by omega, h2, by rw [h3, hst]⟩, ⟨[], ⟨rfl, trivial, rfl⟩, rfl, rfl, rfl, eq_i64 (by rw [nadd, nwrapi (by omega)]), rfl, trivial⟩, by show j - (m + 1) < j - i; omega⟩
   · have g2 : ¬ ((x : Nat) : Int) < v := of_decide_eq_false g2
     rw [if_neg g2] at hst
     conv => whnf
     exact ⟨⟨(i, m), by omega, by omega, by rw [h3, hst]⟩, ⟨[], ⟨rfl, trivial, rfl⟩, rfl, rfl, rfl, rfl, rfl, trivial⟩, by show m - i < j - i; omega⟩
 · have g : j ≤ i := lt_f g
   have hf : bsF l v = i := by rw [h3, bsI, if_neg (by omega)]
   conv => whnf
   refine ⟨fun g2 => ?_, fun g2 => ?_⟩
   · have g2 : i < l.length := lt_t g2
     obtain ⟨x, hx⟩ : ∃ x, l[i]? = some x := ⟨_, List.getElem?_eq_getElem g2⟩
     have hB : bsB l v = (((x : Nat) : Int) == v) := by
       unfold bsB
       rw [hf, decide_eq_true g2, List.getD_eq_getElem?_getD, hx]
       rfl
     conv => whnf
     refine ⟨⟨Int.natCast_nonneg i, Int.ofNat_lt.2 g2⟩, ?_⟩
     conv => whnf
     refine ⟨.int .u32 (x : Nat), ?_⟩
     conv => whnf
     refine ⟨hc i x hx, ?_⟩
     conv => whnf
     refine ⟨rfl, ?_⟩
     conv => whnf
     rw [hf, hB]
     exact Or.inl ⟨rfl, rfl⟩
   · have g2 : l.length ≤ i := lt_f g2
     have hB : bsB l v = false := by
       unfold bsB
       rw [hf, decide_eq_false (show ¬ i < l.length by omega)]
       rfl
     conv => whnf
     rw [hf, hB]
     exact Or.inl ⟨rfl, rfl⟩
structure PrT where
 p16 : List Nat
 n16 : List Nat
 p32 : List Nat
 n32 : List Nat
structure PrT.at (T : PrT) (w0 : World) : Prop where
 a16 : ∃ v, w0.cell? (Addr.mk 16 0 none) = some v ∧ v.oneCell' = true ∧ slAt w0 .u16 v T.p16
 b16 : ∃ v, w0.cell? (Addr.mk 17 0 none) = some v ∧ v.oneCell' = true ∧ slAt w0 .u16 v T.n16
 a32 : ∃ v, w0.cell? (Addr.mk 18 0 none) = some v ∧ v.oneCell' = true ∧ slAt w0 .u32 v T.p32
 b32 : ∃ v, w0.cell? (Addr.mk 19 0 none) = some v ∧ v.oneCell' = true ∧ slAt w0 .u16 v T.n32
 e16 : T.p16.length % 2 = 0
 e32 : T.p32.length % 2 = 0
 l16 : T.p16.length ≤ 65536
 m16 : T.n16.length ≤ 65536
 l32 : T.p32.length ≤ 65536
 m32 : T.n32.length ≤ 65536
def prP (l : List Nat) (v : Int) : Bool :=
 bif decide (l.length ≤ bsF l v) then false
 else bif decide (v < ((l.getD (bsF l v / 2 * 2) 0 : Nat) : Int)) then false
 else bif decide (((l.getD (bsF l v / 2 * 2 + 1) 0 : Nat) : Int) < v) then false else true
def PrT.pr (T : PrT) (r : Int) : Bool :=
 bif decide (r ≤ ((255 : Nat) : Int)) then
   bif (decide (((32 : Nat) : Int) ≤ r) && decide (r ≤ ((126 : Nat) : Int))) then true
   else bif (decide (((161 : Nat) : Int) ≤ r) && decide (r ≤ ((255 : Nat) : Int))) then (r != ((173 : Nat) : Int)) else false
 else bif (decide (((0 : Nat) : Int) ≤ r) && decide (r < ((65536 : Nat) : Int))) then
   bif prP T.p16 (IntKind.u16.wrap r) then !(bsB T.n16 (IntKind.u16.wrap r)) else false
 else bif prP T.p32 (IntKind.u32.wrap r) then
   bif decide (r ≥ ((131072 : Nat) : Int)) then true else !(bsB T.n32 (IntKind.u16.wrap (IntKind.i32.wrap (r - ((65536 : Nat) : Int)))))
 else false
theorem isPrintW {w0 : World} {T : PrT} (h : T.at w0) (r : Int) : CallsA Tryz.prog w0 137 [.c (.val (.int .i32 r))] [] fun x H => x = .o (.c (.val (.bool (T.pr r)))) ∧ H = [] := by
 obtain ⟨v1, a1, o1, s1⟩ := h.a16
 obtain ⟨v2, a2, o2, s2⟩ := h.b16
 obtain ⟨v3, a3, o3, s3⟩ := h.a32
 obtain ⟨v4, a4, o4, s4⟩ := h.b32
 refine callsA_of_ev c137_ ?_
 conv => whnf
 refine Or.inr ⟨PLift (decide (r ≤ ((255 : Nat) : Int)) = false), fun _ => ⟨[(0, .o (.c (.val (.int .i32 r))))], []⟩, ?_, fun ⟨f1⟩ => ?_⟩
 · conv => whnf
   refine ⟨fun f1 => ?_, fun f1 => ?_⟩
   · conv => whnf
     refine Or.inr ⟨PLift ((decide (((32 : Nat) : Int) ≤ r) && decide (r ≤ ((126 : Nat) : Int))) = false), fun _ => ⟨[(0, .o (.c (.val (.int .i32 r))))], []⟩, ?_, fun ⟨f2⟩ => ?_⟩
     · conv => whnf
       refine ⟨fun g2 => ?_, fun g2 => ?_⟩
       · conv => whnf
         refine ⟨fun g3 => ?_, fun g3 => ?_⟩
         · conv => whnf
           have e : T.pr r = true := by simp only [PrT.pr, f1, g2, g3, cond_true, Bool.and_self]
           rw [e]
           exact Or.inl ⟨rfl, rfl⟩
         · conv => whnf
           exact ⟨⟨by rw [g2, g3]; rfl⟩, [], ⟨rfl, trivial, rfl⟩, rfl, trivial⟩
       · conv => whnf
         exact ⟨⟨by rw [g2]; rfl⟩, [], ⟨rfl, trivial, rfl⟩, rfl, trivial⟩
     · conv => whnf
       refine Or.inr ⟨PLift ((decide (((161 : Nat) : Int) ≤ r) && decide (r ≤ ((255 : Nat) : Int))) = false), fun _ => ⟨[], []⟩, ?_, fun ⟨f3⟩ => ?_⟩
       · conv => whnf
         refine ⟨fun g2 => ?_, fun g2 => ?_⟩
         · conv => whnf
           refine ⟨fun g3 => ?_, fun g3 => ?_⟩
           · conv => whnf
             have e : T.pr r = (r != ((173 : Nat) : Int)) := by simp only [PrT.pr, f2, g2, g3, cond_true, cond_false, Bool.and_self]
             rw [e]
             exact Or.inl ⟨rfl, rfl⟩
           · rw [f1] at g3
             cases g3
         · conv => whnf
           exact ⟨⟨by rw [g2]; rfl⟩, [], ⟨rfl, trivial, rfl⟩, trivial⟩
       · conv => whnf
         have e : T.pr r = false := by unfold PrT.pr; rw [f3, f2, f1]; rfl
         rw [e]
         exact Or.inl ⟨rfl, rfl⟩
   · conv => whnf
     exact ⟨⟨f1⟩, [], ⟨rfl, trivial, rfl⟩, rfl, trivial⟩
 conv => whnf
 refine Or.inr ⟨PLift ((decide (((0 : Nat) : Int) ≤ r) && decide (r < ((65536 : Nat) : Int))) = false), fun _ => ⟨[(0, .o (.c (.val (.int .i32 r))))], []⟩, ?_, fun ⟨f4⟩ => ?_⟩
 · conv => whnf
   refine ⟨fun g2 => ?_, fun g2 => ?_⟩
   · conv => whnf
     refine ⟨fun g3 => ?_, fun g3 => ?_⟩
     · conv => whnf
       refine ⟨v1, ?_⟩
       conv => whnf
       refine ⟨a1, ?_⟩
       conv => whnf
       refine ⟨o1, ?_⟩
       conv => whnf
       refine ⟨v2, ?_⟩
       conv => whnf
       refine ⟨a2, ?_⟩
       conv => whnf
       refine ⟨o2, ?_⟩
       conv => whnf
       refine cL0 (bs16W w0 s1 h.l16 (IntKind.u16.wrap r)) ?_
       rintro _ _ ⟨rfl, rfl⟩
       obtain ⟨pa, pc, rfl, hpc⟩ := s1
       have hle := bsF_le T.p16 (IntKind.u16.wrap r)
       have hev := h.e16
       have hl16 := h.l16
       conv => whnf
       refine Or.inr ⟨PLift (prP T.p16 (IntKind.u16.wrap r) = true), fun _ => ⟨[(3, .o (.c (.val (.int .u16 (IntKind.u16.wrap r))))), (5, .o (.c (.val v2)))], []⟩, ?_, fun ⟨f5⟩ => ?_⟩
       · conv => whnf
         refine ⟨fun g5 => ?_, fun g5 => ?_⟩
         · conv => whnf
           have g5 : T.p16.length ≤ bsF T.p16 (IntKind.u16.wrap r) := ge_t g5
           have e : T.pr r = false := by
             unfold PrT.pr prP
             rw [f1, g2, g3, decide_eq_true g5]
             rfl
           rw [e]
           exact Or.inl ⟨rfl, rfl⟩
         · have g5 : bsF T.p16 (IntKind.u16.wrap r) < T.p16.length := ge_f g5
           obtain ⟨x1, hx1⟩ : ∃ x, T.p16[bsF T.p16 (IntKind.u16.wrap r) / 2 * 2]? = some x := ⟨_, List.getElem?_eq_getElem (by omega)⟩
           obtain ⟨x2, hx2⟩ : ∃ x, T.p16[bsF T.p16 (IntKind.u16.wrap r) / 2 * 2 + 1]? = some x := ⟨_, List.getElem?_eq_getElem (by omega)⟩
           have ea := nandn1 (i := bsF T.p16 (IntKind.u16.wrap r)) (by omega)
           have eo := nor1 (i := bsF T.p16 (IntKind.u16.wrap r)) (by omega)
           conv => whnf
           rw [ea]
           refine ⟨⟨Int.natCast_nonneg _, Int.ofNat_lt.2 (by omega)⟩, ?_⟩
           conv => whnf
           refine ⟨.int .u16 (x1 : Nat), ?_⟩
           conv => whnf
           refine ⟨hpc _ x1 hx1, ?_⟩
           conv => whnf
           refine ⟨rfl, ?_⟩
           conv => whnf
           refine ⟨fun g6 => ?_, fun g6 => ?_⟩
           · conv => whnf
             have e : T.pr r = false := by
               unfold PrT.pr prP
               rw [f1, g2, g3, decide_eq_false (show ¬ T.p16.length ≤ bsF T.p16 (IntKind.u16.wrap r) by omega), List.getD_eq_getElem?_getD (l := T.p16), hx1, Option.getD_some, g6]
               rfl
             rw [e]
             exact Or.inl ⟨rfl, rfl⟩
           · conv => whnf
             rw [eo]
             refine ⟨⟨Int.natCast_nonneg _, Int.ofNat_lt.2 (by omega)⟩, ?_⟩
             conv => whnf
             refine ⟨.int .u16 (x2 : Nat), ?_⟩
             conv => whnf
             refine ⟨hpc _ x2 hx2, ?_⟩
             conv => whnf
             refine ⟨rfl, ?_⟩
             conv => whnf
             refine ⟨fun g7 => ?_, fun g7 => ?_⟩
             · conv => whnf
               have e : T.pr r = false := by
                 unfold PrT.pr prP
                 rw [f1, g2, g3, decide_eq_false (show ¬ T.p16.length ≤ bsF T.p16 (IntKind.u16.wrap r) by omega), List.getD_eq_getElem?_getD (l := T.p16), hx1, Option.getD_some, g6, List.getD_eq_getElem?_getD (l := T.p16), hx2, Option.getD_some, g7]
                 rfl
               rw [e]
               exact Or.inl ⟨rfl, rfl⟩
             · conv => whnf
               refine ⟨⟨?_⟩, [], ⟨rfl, trivial, rfl⟩, rfl, rfl, trivial⟩
               unfold prP
               rw [decide_eq_false (show ¬ T.p16.length ≤ bsF T.p16 (IntKind.u16.wrap r) by omega), List.getD_eq_getElem?_getD (l := T.p16), hx1, Option.getD_some, g6, List.getD_eq_getElem?_getD (l := T.p16), hx2, Option.getD_some, g7]
               rfl
       · conv => whnf
         refine cL0 (bs16W w0 s2 h.m16 (IntKind.u16.wrap r)) ?_
         rintro _ _ ⟨rfl, rfl⟩
         conv => whnf
         have e : T.pr r = !(bsB T.n16 (IntKind.u16.wrap r)) := by
           unfold PrT.pr
           rw [f1, g2, g3, f5]
           rfl
         rw [e]
         exact Or.inl ⟨rfl, rfl⟩
     · conv => whnf
       exact ⟨⟨by rw [g2, g3]; rfl⟩, [], ⟨rfl, trivial, rfl⟩, rfl, trivial⟩
   · conv => whnf
     exact ⟨⟨by rw [g2]; rfl⟩, [], ⟨rfl, trivial, rfl⟩, rfl, trivial⟩
 · conv => whnf
   refine ⟨v3, ?_⟩
   conv => whnf
   refine ⟨a3, ?_⟩
   conv => whnf
   refine ⟨o3, ?_⟩
   conv => whnf
   refine ⟨v4, ?_⟩
   conv => whnf
   refine ⟨a4, ?_⟩
   conv => whnf
   refine ⟨o4, ?_⟩
   conv => whnf
   refine cL0 (bs32W w0 s3 h.l32 (IntKind.u32.wrap r)) ?_
   rintro _ _ ⟨rfl, rfl⟩
   obtain ⟨pa, pc, rfl, hpc⟩ := s3
   have hle := bsF_le T.p32 (IntKind.u32.wrap r)
   have hev := h.e32
   have hl32 := h.l32
   conv => whnf
   refine Or.inr ⟨PLift (prP T.p32 (IntKind.u32.wrap r) = true), fun _ => ⟨[(0, .o (.c (.val (.int .i32 r)))), (12, .o (.c (.val v4)))], []⟩, ?_, fun ⟨f5⟩ => ?_⟩
   · conv => whnf
     refine ⟨fun g5 => ?_, fun g5 => ?_⟩
     · conv => whnf
       have g5 : T.p32.length ≤ bsF T.p32 (IntKind.u32.wrap r) := ge_t g5
       have e : T.pr r = false := by
         unfold PrT.pr prP
         rw [f1, f4, decide_eq_true g5]
         rfl
       rw [e]
       exact Or.inl ⟨rfl, rfl⟩
     · have g5 : bsF T.p32 (IntKind.u32.wrap r) < T.p32.length := ge_f g5
       obtain ⟨x1, hx1⟩ : ∃ x, T.p32[bsF T.p32 (IntKind.u32.wrap r) / 2 * 2]? = some x := ⟨_, List.getElem?_eq_getElem (by omega)⟩
       obtain ⟨x2, hx2⟩ : ∃ x, T.p32[bsF T.p32 (IntKind.u32.wrap r) / 2 * 2 + 1]? = some x := ⟨_, List.getElem?_eq_getElem (by omega)⟩
       have ea := nandn1 (i := bsF T.p32 (IntKind.u32.wrap r)) (by omega)
       have eo := nor1 (i := bsF T.p32 (IntKind.u32.wrap r)) (by omega)
       conv => whnf
       rw [ea]
       refine ⟨⟨Int.natCast_nonneg _, Int.ofNat_lt.2 (by omega)⟩, ?_⟩
       conv => whnf
       refine ⟨.int .u32 (x1 : Nat), ?_⟩
       conv => whnf
       refine ⟨hpc _ x1 hx1, ?_⟩
       conv => whnf
       refine ⟨rfl, ?_⟩
       conv => whnf
       refine ⟨fun g6 => ?_, fun g6 => ?_⟩
       · conv => whnf
         have e : T.pr r = false := by
           unfold PrT.pr prP
           rw [f1, f4, decide_eq_false (show ¬ T.p32.length ≤ bsF T.p32 (IntKind.u32.wrap r) by omega), List.getD_eq_getElem?_getD (l := T.p32), hx1, Option.getD_some, g6]
           rfl
         rw [e]
         exact Or.inl ⟨rfl, rfl⟩
       · conv => whnf
         rw [eo]
         refine ⟨⟨Int.natCast_nonneg _, Int.ofNat_lt.2 (by omega)⟩, ?_⟩
         conv => whnf
         refine ⟨.int .u32 (x2 : Nat), ?_⟩
         conv => whnf
         refine ⟨hpc _ x2 hx2, ?_⟩
         conv => whnf
         refine ⟨rfl, ?_⟩
         conv => whnf
         refine ⟨fun g7 => ?_, fun g7 => ?_⟩
         · conv => whnf
           have e : T.pr r = false := by
             unfold PrT.pr prP
             rw [f1, f4, decide_eq_false (show ¬ T.p32.length ≤ bsF T.p32 (IntKind.u32.wrap r) by omega), List.getD_eq_getElem?_getD (l := T.p32), hx1, Option.getD_some, g6, List.getD_eq_getElem?_getD (l := T.p32), hx2, Option.getD_some, g7]
             rfl
           rw [e]
           exact Or.inl ⟨rfl, rfl⟩
         · conv => whnf
           refine ⟨⟨?_⟩, [], ⟨rfl, trivial, rfl⟩, rfl, rfl, trivial⟩
           unfold prP
           rw [decide_eq_false (show ¬ T.p32.length ≤ bsF T.p32 (IntKind.u32.wrap r) by omega), List.getD_eq_getElem?_getD (l := T.p32), hx1, Option.getD_some, g6, List.getD_eq_getElem?_getD (l := T.p32), hx2, Option.getD_some, g7]
           rfl
   · conv => whnf
     refine Or.inl ?_
     conv => whnf
     refine ⟨fun g8 => ?_, fun g8 => ?_⟩
     · conv => whnf
       have e : T.pr r = true := by
         unfold PrT.pr
         rw [f1, f4, f5, g8]
         rfl
       rw [e]
       exact Or.inl ⟨rfl, rfl⟩
     · conv => whnf
       refine cL0 (bs16W w0 s4 h.m32 (IntKind.u16.wrap (IntKind.i32.wrap (r - ((65536 : Nat) : Int))))) ?_
       rintro _ _ ⟨rfl, rfl⟩
       conv => whnf
       have e : T.pr r = !(bsB T.n32 (IntKind.u16.wrap (IntKind.i32.wrap (r - ((65536 : Nat) : Int))))) := by
         unfold PrT.pr
         rw [f1, f4, f5, g8]
         rfl
       rw [e]
       exact Or.inl ⟨rfl, rfl⟩
end Go.Proofs.YtokkphocaloelaaGreatDoor

end
section
namespace Go.Proofs.YtokkphocaloelaaGreatDoor
open Go Go.Vc
set_option maxRecDepth 100000
set_option maxHeartbeats 8000000

theorem validRuneE (w0 : World) (r : Int) : ∃ b : Bool, CallsA Tryz.prog w0 140 [.c (.val (.int .i32 r))] [] fun x H => x = .o (.c (.val (.bool b))) ∧ H = [] := by
 refine ⟨(decide (((0 : Nat) : Int) ≤ r) && decide (r < ((55296 : Nat) : Int))) || (decide (((57343 : Nat) : Int) < r) && decide (r ≤ ((1114111 : Nat) : Int))), ?_⟩
 obtain ⟨b, hb⟩ : ∃ b, b = ((decide (((0 : Nat) : Int) ≤ r) && decide (r < ((55296 : Nat) : Int))) || (decide (((57343 : Nat) : Int) < r) && decide (r ≤ ((1114111 : Nat) : Int)))) := ⟨_, rfl⟩
 rw [← hb]
 refine callsA_of_ev c140_ ?_
 conv => whnf
 refine Or.inr ⟨PLift (b = false), fun _ => ⟨[], []⟩, ?_, fun ⟨f⟩ => ?_⟩
 · conv => whnf
   refine ⟨fun g1 => ?_, fun g1 => ?_⟩
   · conv => whnf
     refine ⟨fun g2 => ?_, fun g2 => ?_⟩
     · conv => whnf
       have e : b = true := by rw [hb, g1, g2]; rfl
       rw [e]
       exact Or.inl ⟨rfl, rfl⟩
     · conv => whnf
       refine ⟨fun g3 => ?_, fun g3 => ?_⟩
       · conv => whnf
         refine ⟨fun g4 => ?_, fun g4 => ?_⟩
         · conv => whnf
           have e : b = true := by rw [hb, g3, g4]; exact Bool.or_true _
           rw [e]
           exact Or.inl ⟨rfl, rfl⟩
         · conv => whnf
           exact ⟨⟨by rw [hb, g2, g4, Bool.and_false, Bool.and_false]; rfl⟩, [], ⟨rfl, trivial, rfl⟩, trivial⟩
       · conv => whnf
         exact ⟨⟨by rw [hb, g2, g3, Bool.and_false, Bool.false_and]; rfl⟩, [], ⟨rfl, trivial, rfl⟩, trivial⟩
   · conv => whnf
     refine ⟨fun g3 => ?_, fun g3 => ?_⟩
     · conv => whnf
       refine ⟨fun g4 => ?_, fun g4 => ?_⟩
       · conv => whnf
         have e : b = true := by rw [hb, g3, g4]; exact Bool.or_true _
         rw [e]
         exact Or.inl ⟨rfl, rfl⟩
       · conv => whnf
         exact ⟨⟨by rw [hb, g1, g4, Bool.false_and, Bool.and_false]; rfl⟩, [], ⟨rfl, trivial, rfl⟩, trivial⟩
     · conv => whnf
       exact ⟨⟨by rw [hb, g1, g3, Bool.false_and, Bool.false_and]; rfl⟩, [], ⟨rfl, trivial, rfl⟩, trivial⟩
 · conv => whnf
   rw [f]
   exact Or.inl ⟨rfl, rfl⟩
theorem apB1 {l x : List Int} (h : l.length ≤ 1099511627776) (hx : x.length ≤ 64) : (l ++ x).length * 1 ≤ 140737488355328 := by
 rw [List.length_append]
 omega
theorem apB2 {l x : List Int} (h : l.length ≤ 1099511627776) (hx : x.length ≤ 64) : (l ++ x).length ≤ 140737488355328 := by
 rw [List.length_append]
 omega
theorem appNonE (w0 : World) (r : Int) : ∃ x : List Int, x.length ≤ 4 ∧ ∀ l : List Int, l.length ≤ 1099511627776 → CallsA Tryz.prog w0 146 [.c (.vec 0 l.length), .c (.val (.int .i32 r))] [rowB l] fun y H => y = .o (.c (.vec 1 (l ++ x).length)) ∧ H = [.dead, rowB (l ++ x)] := by
 rcases (by omega : IntKind.u32.wrap r ≤ 2047 ∨ (2047 < IntKind.u32.wrap r ∧ IntKind.u32.wrap r < 55296) ∨ (55296 ≤ IntKind.u32.wrap r ∧ IntKind.u32.wrap r ≤ 57343) ∨ (57343 < IntKind.u32.wrap r ∧ IntKind.u32.wrap r ≤ 65535) ∨ (65535 < IntKind.u32.wrap r ∧ IntKind.u32.wrap r ≤ 1114111) ∨ 1114111 < IntKind.u32.wrap r) with h1 | h1 | h1 | h1 | h1 | h1
 · apply Exists.intro
   refine ⟨?_, fun l hl => callsA_of_ev c146_ ?_⟩
   rotate_left
   · conv => whnf
     refine ⟨fun _ => ?_, fun g => by have := of_decide_eq_false g; omega⟩
     conv => whnf
     refine ⟨rfl, [_, _], ⟨rfl, rfl, rfl⟩, apB1 hl (by simp), apB2 hl (by simp), ?_⟩
     conv => whnf
     exact Or.inr ⟨[0, 2], _, [.dead, rowB (l ++ _)], ⟨rfl, ⟨l0 _, rfl, rfl, trivial⟩, rfl⟩, rfl, rfl, rfl⟩
   · simp
 · apply Exists.intro
   refine ⟨?_, fun l hl => callsA_of_ev c146_ ?_⟩
   rotate_left
   · conv => whnf
     refine ⟨fun g => by have := of_decide_eq_true g; omega, fun _ => ?_⟩
     conv => whnf
     refine Or.inl ?_
     conv => whnf
     refine ⟨fun _ => ?_, fun g => by have := of_decide_eq_false g; omega⟩
     conv => whnf
     refine ⟨fun _ => ?_, fun g => by have := of_decide_eq_false g; omega⟩
     conv => whnf
     refine ⟨rfl, [_, _, _], ⟨rfl, rfl, rfl⟩, apB1 hl (by simp), apB2 hl (by simp), ?_⟩
     conv => whnf
     exact Or.inr ⟨[0, 2], _, [.dead, rowB (l ++ _)], ⟨rfl, ⟨l0 _, rfl, rfl, trivial⟩, rfl⟩, rfl, rfl, rfl⟩
   · simp
 · apply Exists.intro
   refine ⟨?_, fun l hl => callsA_of_ev c146_ ?_⟩
   rotate_left
   · conv => whnf
     refine ⟨fun g => by have := of_decide_eq_true g; omega, fun _ => ?_⟩
     conv => whnf
     refine Or.inl ?_
     conv => whnf
     refine ⟨fun g => by have := of_decide_eq_true g; omega, fun _ => ?_⟩
     conv => whnf
     refine ⟨fun g => by have := of_decide_eq_true g; omega, fun _ => ?_⟩
     conv => whnf
     refine ⟨fun g => by have := of_decide_eq_true g; omega, fun _ => ?_⟩
     conv => whnf
     refine ⟨rfl, [_, _, _], ⟨rfl, rfl, rfl⟩, apB1 hl (by simp), apB2 hl (by simp), ?_⟩
     conv => whnf
     exact Or.inr ⟨[0, 2], _, [.dead, rowB (l ++ _)], ⟨rfl, ⟨l0 _, rfl, rfl, trivial⟩, rfl⟩, rfl, rfl, rfl⟩
   · simp
 · apply Exists.intro
   refine ⟨?_, fun l hl => callsA_of_ev c146_ ?_⟩
   rotate_left
   · conv => whnf
     refine ⟨fun g => by have := of_decide_eq_true g; omega, fun _ => ?_⟩
     conv => whnf
     refine Or.inl ?_
     conv => whnf
     refine ⟨fun g => by have := of_decide_eq_true g; omega, fun _ => ?_⟩
     conv => whnf
     refine ⟨fun _ => ?_, fun g => by have := of_decide_eq_false g; omega⟩
     conv => whnf
     refine ⟨fun _ => ?_, fun g => by have := of_decide_eq_false g; omega⟩
     conv => whnf
     refine ⟨rfl, [_, _, _], ⟨rfl, rfl, rfl⟩, apB1 hl (by simp), apB2 hl (by simp), ?_⟩
     conv => whnf
     exact Or.inr ⟨[0, 2], _, [.dead, rowB (l ++ _)], ⟨rfl, ⟨l0 _, rfl, rfl, trivial⟩, rfl⟩, rfl, rfl, rfl⟩
   · simp
 · apply Exists.intro
   refine ⟨?_, fun l hl => callsA_of_ev c146_ ?_⟩
   rotate_left
   · conv => whnf
     refine ⟨fun g => by have := of_decide_eq_true g; omega, fun _ => ?_⟩
     conv => whnf
     refine Or.inl ?_
     conv => whnf
     refine ⟨fun g => by have := of_decide_eq_true g; omega, fun _ => ?_⟩
     conv => whnf
     refine ⟨fun _ => ?_, fun g => by have := of_decide_eq_false g; omega⟩
     conv => whnf
     refine ⟨fun g => by have := of_decide_eq_true g; omega, fun _ => ?_⟩
     conv => whnf
     refine ⟨fun _ => ?_, fun g => by have := of_decide_eq_false g; omega⟩
     conv => whnf
     refine ⟨fun _ => ?_, fun g => by have := of_decide_eq_false g; omega⟩
     conv => whnf
     refine ⟨rfl, [_, _, _, _], ⟨rfl, rfl, rfl⟩, apB1 hl (by simp), apB2 hl (by simp), ?_⟩
     conv => whnf
     exact Or.inr ⟨[0, 2], _, [.dead, rowB (l ++ _)], ⟨rfl, ⟨l0 _, rfl, rfl, trivial⟩, rfl⟩, rfl, rfl, rfl⟩
   · simp
 · apply Exists.intro
   refine ⟨?_, fun l hl => callsA_of_ev c146_ ?_⟩
   rotate_left
   · conv => whnf
     refine ⟨fun g => by have := of_decide_eq_true g; omega, fun _ => ?_⟩
     conv => whnf
     refine Or.inl ?_
     conv => whnf
     refine ⟨fun g => by have := of_decide_eq_true g; omega, fun _ => ?_⟩
     conv => whnf
     refine ⟨fun _ => ?_, fun g => by have := of_decide_eq_false g; omega⟩
     conv => whnf
     refine ⟨fun g => by have := of_decide_eq_true g; omega, fun _ => ?_⟩
     conv => whnf
     refine ⟨fun _ => ?_, fun g => by have := of_decide_eq_false g; omega⟩
     conv => whnf
     refine ⟨fun g => by have := of_decide_eq_true g; omega, fun _ => ?_⟩
     conv => whnf
     refine ⟨rfl, [_, _, _], ⟨rfl, rfl, rfl⟩, apB1 hl (by simp), apB2 hl (by simp), ?_⟩
     conv => whnf
     exact Or.inr ⟨[0, 2], _, [.dead, rowB (l ++ _)], ⟨rfl, ⟨l0 _, rfl, rfl, trivial⟩, rfl⟩, rfl, rfl, rfl⟩
   · simp
theorem appRuneE (w0 : World) (r : Int) : ∃ x : List Int, x.length ≤ 4 ∧ ∀ l : List Int, l.length ≤ 1099511627776 → CallsA Tryz.prog w0 139 [.c (.vec 0 l.length), .c (.val (.int .i32 r))] [rowB l] fun y H => y = .o (.c (.vec 1 (l ++ x).length)) ∧ H = [.dead, rowB (l ++ x)] := by
 by_cases h1 : IntKind.u32.wrap r ≤ 127
 · apply Exists.intro
   refine ⟨?_, fun l hl => callsA_of_ev c139_ ?_⟩
   rotate_left
   · conv => whnf
     refine Or.inl ?_
     conv => whnf
     refine ⟨fun _ => ?_, fun g => by have := of_decide_eq_false g; omega⟩
     conv => whnf
     refine ⟨rfl, [_], ⟨rfl, rfl, rfl⟩, apB1 hl (by simp), apB2 hl (by simp), ?_⟩
     conv => whnf
     exact Or.inr ⟨[0, 2], _, [.dead, rowB (l ++ _)], ⟨rfl, ⟨l0 _, rfl, rfl, trivial⟩, rfl⟩, rfl, rfl, rfl⟩
   · simp
 · obtain ⟨x, hx, hc⟩ := appNonE w0 r
   refine ⟨x, hx, fun l hl => callsA_of_ev c139_ ?_⟩
   conv => whnf
   refine Or.inl ?_
   conv => whnf
   refine ⟨fun g => by have := of_decide_eq_true g; omega, fun _ => ?_⟩
   conv => whnf
   refine CallsA.lift (H0 := [rowB l]) [0] rfl ⟨rfl, rfl, trivial⟩ rfl (hc l hl) ?_
   rintro _ _ ⟨rfl, rfl⟩
   conv => whnf
   exact Or.inr ⟨[0, 1], .o (.c (.vec 1 (l ++ x).length)), [.dead, rowB (l ++ x)], ⟨rfl, ⟨l0 _, rfl, rfl, trivial⟩, rfl⟩, rfl, rfl, rfl⟩
end Go.Proofs.YtokkphocaloelaaGreatDoor

end
section
namespace Go.Proofs.YtokkphocaloelaaGreatDoor
open Go Go.Vc
set_option maxRecDepth 100000
set_option maxHeartbeats 8000000

theorem aps {l x L y : List Int} (h : L = l ++ x) : L ++ y = l ++ (x ++ y) := by rw [h, List.append_assoc]
theorem hexAt {n : Int} (h0 : 0 ≤ n) (h1 : n < 16) : ∃ y : UInt8, (if 0 ≤ n then (ByteArray.mk #[48, 49, 50, 51, 52, 53, 54, 55, 56, 57, 97, 98, 99, 100, 101, 102])[n.toNat]? else none) = some y := by
 rw [if_pos h0]
 exact ⟨_, getElem?_pos (ByteArray.mk #[48, 49, 50, 51, 52, 53, 54, 55, 56, 57, 97, 98, 99, 100, 101, 102]) n.toNat (show n.toNat < 16 by omega)⟩
def hxI (r : Int) (s : Nat) : Int := IntKind.i32.wrap (((BitVec.ofInt IntKind.i32.bits (r.fdiv ((2 : Int) ^ min s IntKind.i32.bits)) &&& BitVec.ofInt IntKind.i32.bits ((15 : Nat) : Int)).toNat : Nat) : Int)
theorem hexE (r : Int) : ∀ s : Nat, ∃ y : UInt8, (if 0 ≤ hxI r s then (ByteArray.mk #[48, 49, 50, 51, 52, 53, 54, 55, 56, 57, 97, 98, 99, 100, 101, 102])[(hxI r s).toNat]? else none) = some y := by
 intro s
 have := and15 (w := IntKind.i32.bits) (by decide) (BitVec.ofInt IntKind.i32.bits (r.fdiv ((2 : Int) ^ min s IntKind.i32.bits)))
 have e : hxI r s = (((BitVec.ofInt IntKind.i32.bits (r.fdiv ((2 : Int) ^ min s IntKind.i32.bits)) &&& BitVec.ofInt IntKind.i32.bits ((15 : Nat) : Int)).toNat : Nat) : Int) := by
   unfold hxI
   rw [IntKind.wrap_i32]
   omega
 rw [e]
 exact hexAt (Int.natCast_nonneg _) (by omega)
theorem escE {w0 : World} {T : PrT} (h : T.at w0) (r : Int) : ∃ x : List Int, x.length ≤ 10 ∧ ∀ l : List Int, l.length ≤ 1099511627000 → CallsA Tryz.prog w0 131 [.c (.vec 0 l.length), .c (.val (.int .i32 r)), .c (.val (.int .u8 ((34 : Nat) : Int))), .c (.val (.bool false)), .c (.val (.bool false))] [rowB l] fun y H => ∃ L, L = l ++ x ∧ y = .o (.c (.vec 1 L.length)) ∧ H = [.dead, rowB L] := by
 have e34 : IntKind.i32.wrap ((34 : Nat) : Int) = ((34 : Nat) : Int) := by decide
 by_cases h1 : r = 34
 · apply Exists.intro
   refine ⟨?_, fun l hl => callsA_of_ev c131_ ?_⟩
   rotate_left
   · conv => whnf
     refine Or.inl ?_
     conv => whnf
     rw [e34]
     refine ⟨fun _ => ?_, fun g => by have := beq_eq_false_iff_ne.1 g; omega⟩
     conv => whnf
     refine ⟨rfl, [_], ⟨rfl, rfl, rfl⟩, apB1 (Nat.le_trans hl (by decide)) (by simp), apB2 (Nat.le_trans hl (by decide)) (by simp), ?_⟩
     conv => whnf
     refine ⟨rfl, [_], ⟨rfl, rfl, rfl⟩, apB1 (by simp only [List.length_append, List.length_cons, List.length_nil]; omega) (by simp), apB2 (by simp only [List.length_append, List.length_cons, List.length_nil]; omega) (by simp), ?_⟩
     conv => whnf
     exact Or.inr ⟨[0, 4], _, [.dead, rowB _], ⟨rfl, ⟨l0 _, rfl, rfl, trivial⟩, rfl⟩, rfl, ⟨_, aps rfl, rfl, rfl⟩⟩
   · simp
 by_cases h2 : r = 92
 · apply Exists.intro
   refine ⟨?_, fun l hl => callsA_of_ev c131_ ?_⟩
   rotate_left
   · conv => whnf
     refine Or.inl ?_
     conv => whnf
     rw [e34]
     refine ⟨fun g => by have := beq_iff_eq.1 g; omega, fun _ => ?_⟩
     conv => whnf
     refine ⟨fun _ => ?_, fun g => by have := beq_eq_false_iff_ne.1 g; omega⟩
     conv => whnf
     refine ⟨rfl, [_], ⟨rfl, rfl, rfl⟩, apB1 (Nat.le_trans hl (by decide)) (by simp), apB2 (Nat.le_trans hl (by decide)) (by simp), ?_⟩
     conv => whnf
     refine ⟨rfl, [_], ⟨rfl, rfl, rfl⟩, apB1 (by simp only [List.length_append, List.length_cons, List.length_nil]; omega) (by simp), apB2 (by simp only [List.length_append, List.length_cons, List.length_nil]; omega) (by simp), ?_⟩
     conv => whnf
     exact Or.inr ⟨[0, 4], _, [.dead, rowB _], ⟨rfl, ⟨l0 _, rfl, rfl, trivial⟩, rfl⟩, rfl, ⟨_, aps rfl, rfl, rfl⟩⟩
   · simp
 have hpr := isPrintW h r
 cases hp : T.pr r with
 | true =>
   obtain ⟨x, hx, hc⟩ := appRuneE w0 r
   refine ⟨x, by omega, fun l hl => callsA_of_ev c131_ ?_⟩
   rw [hp] at hpr
   conv => whnf
   refine Or.inl ?_
   conv => whnf
   rw [e34]
   refine ⟨fun g => by have := beq_iff_eq.1 g; omega, fun _ => ?_⟩
   conv => whnf
   refine ⟨fun g => by have := beq_iff_eq.1 g; omega, fun _ => ?_⟩
   conv => whnf
   refine Or.inl ?_
   conv => whnf
   refine ⟨fun g => zF g, fun _ => ?_⟩
   conv => whnf
   refine cL0 hpr ?_
   rintro _ _ ⟨rfl, rfl⟩
   conv => whnf
   refine ⟨fun _ => ?_, fun g => zT g⟩
   conv => whnf
   refine CallsA.lift (H0 := [rowB l]) [0] rfl ⟨rfl, rfl, trivial⟩ rfl (hc l (by omega)) ?_
   rintro _ _ ⟨rfl, rfl⟩
   conv => whnf
   exact Or.inr ⟨[0, 1], .o (.c (.vec 1 (l ++ x).length)), [.dead, rowB (l ++ x)], ⟨rfl, ⟨l0 _, rfl, rfl, trivial⟩, rfl⟩, rfl, ⟨_, rfl, rfl, rfl⟩⟩
 | false =>
   rw [hp] at hpr
   rcases (by omega : r = 7 ∨ r = 8 ∨ r = 12 ∨ r = 10 ∨ r = 13 ∨ r = 9 ∨ r = 11 ∨ (r ≠ 7 ∧ r ≠ 8 ∧ r ≠ 12 ∧ r ≠ 10 ∧ r ≠ 13 ∧ r ≠ 9 ∧ r ≠ 11)) with h7 | h7 | h7 | h7 | h7 | h7 | h7 | h7
   · apply Exists.intro
     refine ⟨?_, fun l hl => callsA_of_ev c131_ ?_⟩
     rotate_left
     · conv => whnf
       refine Or.inl ?_
       conv => whnf
       rw [e34]
       refine ⟨fun g => by have := beq_iff_eq.1 g; omega, fun _ => ?_⟩
       conv => whnf
       refine ⟨fun g => by have := beq_iff_eq.1 g; omega, fun _ => ?_⟩
       conv => whnf
       refine Or.inl ?_
       conv => whnf
       refine ⟨fun g => zF g, fun _ => ?_⟩
       conv => whnf
       refine cL0 hpr ?_
       rintro _ _ ⟨rfl, rfl⟩
       conv => whnf
       refine ⟨fun g => zF g, fun _ => ?_⟩
       conv => whnf
       refine ⟨fun g => zF g, fun _ => ?_⟩
       conv => whnf
       refine Or.inl ?_
       conv => whnf
       refine ⟨fun _ => ?_, fun g => by have := beq_eq_false_iff_ne.1 g; omega⟩
       conv => whnf
       refine ⟨rfl, [_, _], ⟨rfl, rfl, rfl⟩, apB1 (Nat.le_trans hl (by decide)) (by simp), apB2 (Nat.le_trans hl (by decide)) (by simp), ?_⟩
       conv => whnf
       exact Or.inr ⟨[0, 1], _, [.dead, rowB _], ⟨rfl, ⟨l0 _, rfl, rfl, trivial⟩, rfl⟩, rfl, ⟨_, rfl, rfl, rfl⟩⟩
     · simp
   · apply Exists.intro
     refine ⟨?_, fun l hl => callsA_of_ev c131_ ?_⟩
     rotate_left
     · conv => whnf
       refine Or.inl ?_
       conv => whnf
       rw [e34]
       refine ⟨fun g => by have := beq_iff_eq.1 g; omega, fun _ => ?_⟩
       conv => whnf
       refine ⟨fun g => by have := beq_iff_eq.1 g; omega, fun _ => ?_⟩
       conv => whnf
       refine Or.inl ?_
       conv => whnf
       refine ⟨fun g => zF g, fun _ => ?_⟩
       conv => whnf
       refine cL0 hpr ?_
       rintro _ _ ⟨rfl, rfl⟩
       conv => whnf
       refine ⟨fun g => zF g, fun _ => ?_⟩
       conv => whnf
       refine ⟨fun g => zF g, fun _ => ?_⟩
       conv => whnf
       refine Or.inl ?_
       conv => whnf
       refine ⟨fun g => by have := beq_iff_eq.1 g; omega, fun _ => ?_⟩
       conv => whnf
       refine ⟨fun _ => ?_, fun g => by have := beq_eq_false_iff_ne.1 g; omega⟩
       conv => whnf
       refine ⟨rfl, [_, _], ⟨rfl, rfl, rfl⟩, apB1 (Nat.le_trans hl (by decide)) (by simp), apB2 (Nat.le_trans hl (by decide)) (by simp), ?_⟩
       conv => whnf
       exact Or.inr ⟨[0, 1], _, [.dead, rowB _], ⟨rfl, ⟨l0 _, rfl, rfl, trivial⟩, rfl⟩, rfl, ⟨_, rfl, rfl, rfl⟩⟩
     · simp
   · apply Exists.intro
     refine ⟨?_, fun l hl => callsA_of_ev c131_ ?_⟩
     rotate_left
     · conv => whnf
       refine Or.inl ?_
       conv => whnf
       rw [e34]
       refine ⟨fun g => by have := beq_iff_eq.1 g; omega, fun _ => ?_⟩
       conv => whnf
       refine ⟨fun g => by have := beq_iff_eq.1 g; omega, fun _ => ?_⟩
       conv => whnf
       refine Or.inl ?_
       conv => whnf
       refine ⟨fun g => zF g, fun _ => ?_⟩
       conv => whnf
       refine cL0 hpr ?_
       rintro _ _ ⟨rfl, rfl⟩
       conv => whnf
       refine ⟨fun g => zF g, fun _ => ?_⟩
       conv => whnf
       refine ⟨fun g => zF g, fun _ => ?_⟩
       conv => whnf
       refine Or.inl ?_
       conv => whnf
       refine ⟨fun g => by have := beq_iff_eq.1 g; omega, fun _ => ?_⟩
       conv => whnf
       refine ⟨fun g => by have := beq_iff_eq.1 g; omega, fun _ => ?_⟩
       conv => whnf
       refine ⟨fun _ => ?_, fun g => by have := beq_eq_false_iff_ne.1 g; omega⟩
       conv => whnf
       refine ⟨rfl, [_, _], ⟨rfl, rfl, rfl⟩, apB1 (Nat.le_trans hl (by decide)) (by simp), apB2 (Nat.le_trans hl (by decide)) (by simp), ?_⟩
       conv => whnf
       exact Or.inr ⟨[0, 1], _, [.dead, rowB _], ⟨rfl, ⟨l0 _, rfl, rfl, trivial⟩, rfl⟩, rfl, ⟨_, rfl, rfl, rfl⟩⟩
     · simp
   · apply Exists.intro
     refine ⟨?_, fun l hl => callsA_of_ev c131_ ?_⟩
     rotate_left
     · conv => whnf
       refine Or.inl ?_
       conv => whnf
       rw [e34]
       refine ⟨fun g => by have := beq_iff_eq.1 g; omega, fun _ => ?_⟩
       conv => whnf
       refine ⟨fun g => by have := beq_iff_eq.1 g; omega, fun _ => ?_⟩
       conv => whnf
       refine Or.inl ?_
       conv => whnf
       refine ⟨fun g => zF g, fun _ => ?_⟩
       conv => whnf
       refine cL0 hpr ?_
       rintro _ _ ⟨rfl, rfl⟩
       conv => whnf
       refine ⟨fun g => zF g, fun _ => ?_⟩
       conv => whnf
       refine ⟨fun g => zF g, fun _ => ?_⟩
       conv => whnf
       refine Or.inl ?_
       conv => whnf
       refine ⟨fun g => by have := beq_iff_eq.1 g; omega, fun _ => ?_⟩
       conv => whnf
       refine ⟨fun g => by have := beq_iff_eq.1 g; omega, fun _ => ?_⟩
       conv => whnf
       refine ⟨fun g => by have := beq_iff_eq.1 g; omega, fun _ => ?_⟩
       conv => whnf
       refine ⟨fun _ => ?_, fun g => by have := beq_eq_false_iff_ne.1 g; omega⟩
       conv => whnf
       refine ⟨rfl, [_, _], ⟨rfl, rfl, rfl⟩, apB1 (Nat.le_trans hl (by decide)) (by simp), apB2 (Nat.le_trans hl (by decide)) (by simp), ?_⟩
       conv => whnf
       exact Or.inr ⟨[0, 1], _, [.dead, rowB _], ⟨rfl, ⟨l0 _, rfl, rfl, trivial⟩, rfl⟩, rfl, ⟨_, rfl, rfl, rfl⟩⟩
     · simp
   · apply Exists.intro
     refine ⟨?_, fun l hl => callsA_of_ev c131_ ?_⟩
     rotate_left
     · conv => whnf
       refine Or.inl ?_
       conv => whnf
       rw [e34]
       refine ⟨fun g => by have := beq_iff_eq.1 g; omega, fun _ => ?_⟩
       conv => whnf
       refine ⟨fun g => by have := beq_iff_eq.1 g; omega, fun _ => ?_⟩
       conv => whnf
       refine Or.inl ?_
       conv => whnf
       refine ⟨fun g => zF g, fun _ => ?_⟩
       conv => whnf
       refine cL0 hpr ?_
       rintro _ _ ⟨rfl, rfl⟩
       conv => whnf
       refine ⟨fun g => zF g, fun _ => ?_⟩
       conv => whnf
       refine ⟨fun g => zF g, fun _ => ?_⟩
       conv => whnf
       refine Or.inl ?_
       conv => whnf
       refine ⟨fun g => by have := beq_iff_eq.1 g; omega, fun _ => ?_⟩
       conv => whnf
       refine ⟨fun g => by have := beq_iff_eq.1 g; omega, fun _ => ?_⟩
       conv => whnf
       refine ⟨fun g => by have := beq_iff_eq.1 g; omega, fun _ => ?_⟩
       conv => whnf
       refine ⟨fun g => by have := beq_iff_eq.1 g; omega, fun _ => ?_⟩
       conv => whnf
       refine ⟨fun _ => ?_, fun g => by have := beq_eq_false_iff_ne.1 g; omega⟩
       conv => whnf
       refine ⟨rfl, [_, _], ⟨rfl, rfl, rfl⟩, apB1 (Nat.le_trans hl (by decide)) (by simp), apB2 (Nat.le_trans hl (by decide)) (by simp), ?_⟩
       conv => whnf
       exact Or.inr ⟨[0, 1], _, [.dead, rowB _], ⟨rfl, ⟨l0 _, rfl, rfl, trivial⟩, rfl⟩, rfl, ⟨_, rfl, rfl, rfl⟩⟩
     · simp
   · apply Exists.intro
     refine ⟨?_, fun l hl => callsA_of_ev c131_ ?_⟩
     rotate_left
     · conv => whnf
       refine Or.inl ?_
       conv => whnf
       rw [e34]
       refine ⟨fun g => by have := beq_iff_eq.1 g; omega, fun _ => ?_⟩
       conv => whnf
       refine ⟨fun g => by have := beq_iff_eq.1 g; omega, fun _ => ?_⟩
       conv => whnf
       refine Or.inl ?_
       conv => whnf
       refine ⟨fun g => zF g, fun _ => ?_⟩
       conv => whnf
       refine cL0 hpr ?_
       rintro _ _ ⟨rfl, rfl⟩
       conv => whnf
       refine ⟨fun g => zF g, fun _ => ?_⟩
       conv => whnf
       refine ⟨fun g => zF g, fun _ => ?_⟩
       conv => whnf
       refine Or.inl ?_
       conv => whnf
       refine ⟨fun g => by have := beq_iff_eq.1 g; omega, fun _ => ?_⟩
       conv => whnf
       refine ⟨fun g => by have := beq_iff_eq.1 g; omega, fun _ => ?_⟩
       conv => whnf
       refine ⟨fun g => by have := beq_iff_eq.1 g; omega, fun _ => ?_⟩
       conv => whnf
       refine ⟨fun g => by have := beq_iff_eq.1 g; omega, fun _ => ?_⟩
       conv => whnf
       refine ⟨fun g => by have := beq_iff_eq.1 g; omega, fun _ => ?_⟩
       conv => whnf
       refine ⟨fun _ => ?_, fun g => by have := beq_eq_false_iff_ne.1 g; omega⟩
       conv => whnf
       refine ⟨rfl, [_, _], ⟨rfl, rfl, rfl⟩, apB1 (Nat.le_trans hl (by decide)) (by simp), apB2 (Nat.le_trans hl (by decide)) (by simp), ?_⟩
       conv => whnf
       exact Or.inr ⟨[0, 1], _, [.dead, rowB _], ⟨rfl, ⟨l0 _, rfl, rfl, trivial⟩, rfl⟩, rfl, ⟨_, rfl, rfl, rfl⟩⟩
     · simp
   · apply Exists.intro
     refine ⟨?_, fun l hl => callsA_of_ev c131_ ?_⟩
     rotate_left
     · conv => whnf
       refine Or.inl ?_
       conv => whnf
       rw [e34]
       refine ⟨fun g => by have := beq_iff_eq.1 g; omega, fun _ => ?_⟩
       conv => whnf
       refine ⟨fun g => by have := beq_iff_eq.1 g; omega, fun _ => ?_⟩
       conv => whnf
       refine Or.inl ?_
       conv => whnf
       refine ⟨fun g => zF g, fun _ => ?_⟩
       conv => whnf
       refine cL0 hpr ?_
       rintro _ _ ⟨rfl, rfl⟩
       conv => whnf
       refine ⟨fun g => zF g, fun _ => ?_⟩
       conv => whnf
       refine ⟨fun g => zF g, fun _ => ?_⟩
       conv => whnf
       refine Or.inl ?_
       conv => whnf
       refine ⟨fun g => by have := beq_iff_eq.1 g; omega, fun _ => ?_⟩
       conv => whnf
       refine ⟨fun g => by have := beq_iff_eq.1 g; omega, fun _ => ?_⟩
       conv => whnf
       refine ⟨fun g => by have := beq_iff_eq.1 g; omega, fun _ => ?_⟩
       conv => whnf
       refine ⟨fun g => by have := beq_iff_eq.1 g; omega, fun _ => ?_⟩
       conv => whnf
       refine ⟨fun g => by have := beq_iff_eq.1 g; omega, fun _ => ?_⟩
       conv => whnf
       refine ⟨fun g => by have := beq_iff_eq.1 g; omega, fun _ => ?_⟩
       conv => whnf
       refine ⟨fun _ => ?_, fun g => by have := beq_eq_false_iff_ne.1 g; omega⟩
       conv => whnf
       refine ⟨rfl, [_, _], ⟨rfl, rfl, rfl⟩, apB1 (Nat.le_trans hl (by decide)) (by simp), apB2 (Nat.le_trans hl (by decide)) (by simp), ?_⟩
       conv => whnf
       exact Or.inr ⟨[0, 1], _, [.dead, rowB _], ⟨rfl, ⟨l0 _, rfl, rfl, trivial⟩, rfl⟩, rfl, ⟨_, rfl, rfl, rfl⟩⟩
     · simp
   obtain ⟨y1, hy1⟩ := hexAt (n := (IntKind.u8.wrap r).fdiv ((2 : Int) ^ min 4 IntKind.u8.bits)) (by rw [IntKind.wrap_u8]; show 0 ≤ (r % 256).fdiv 16; rw [Int.fdiv_eq_ediv_of_nonneg _ (by decide)]; omega) (by rw [IntKind.wrap_u8]; show (r % 256).fdiv 16 < 16; rw [Int.fdiv_eq_ediv_of_nonneg _ (by decide)]; omega)
   obtain ⟨y2, hy2⟩ := hexAt (n := IntKind.u8.wrap (((BitVec.ofInt IntKind.u8.bits (IntKind.u8.wrap r) &&& BitVec.ofInt IntKind.u8.bits ((15 : Nat) : Int)).toNat : Nat) : Int)) (by rw [IntKind.wrap_u8]; omega) (by
     have := and15 (w := IntKind.u8.bits) (by decide) (BitVec.ofInt IntKind.u8.bits (IntKind.u8.wrap r))
     rw [nwrap8 (by omega)]
     omega)
   by_cases h8 : r < 32
   · apply Exists.intro
     refine ⟨?_, fun l hl => callsA_of_ev c131_ ?_⟩
     rotate_left
     · conv => whnf
       refine Or.inl ?_
       conv => whnf
       rw [e34]
       refine ⟨fun g => by have := beq_iff_eq.1 g; omega, fun _ => ?_⟩
       conv => whnf
       refine ⟨fun g => by have := beq_iff_eq.1 g; omega, fun _ => ?_⟩
       conv => whnf
       refine Or.inl ?_
       conv => whnf
       refine ⟨fun g => zF g, fun _ => ?_⟩
       conv => whnf
       refine cL0 hpr ?_
       rintro _ _ ⟨rfl, rfl⟩
       conv => whnf
       refine ⟨fun g => zF g, fun _ => ?_⟩
       conv => whnf
       refine ⟨fun g => zF g, fun _ => ?_⟩
       conv => whnf
       refine Or.inl ?_
       conv => whnf
       refine ⟨fun g => by have := beq_iff_eq.1 g; omega, fun _ => ?_⟩
       conv => whnf
       refine ⟨fun g => by have := beq_iff_eq.1 g; omega, fun _ => ?_⟩
       conv => whnf
       refine ⟨fun g => by have := beq_iff_eq.1 g; omega, fun _ => ?_⟩
       conv => whnf
       refine ⟨fun g => by have := beq_iff_eq.1 g; omega, fun _ => ?_⟩
       conv => whnf
       refine ⟨fun g => by have := beq_iff_eq.1 g; omega, fun _ => ?_⟩
       conv => whnf
       refine ⟨fun g => by have := beq_iff_eq.1 g; omega, fun _ => ?_⟩
       conv => whnf
       refine ⟨fun g => by have := beq_iff_eq.1 g; omega, fun _ => ?_⟩
       conv => whnf
       refine Or.inl ?_
       conv => whnf
       refine Or.inl ?_
       conv => whnf
       refine Or.inl ?_
       conv => whnf
       refine Or.inl ?_
       conv => whnf
       refine Or.inl ?_
       conv => whnf
       refine Or.inl ?_
       conv => whnf
       refine ⟨fun _ => ?_, fun g => by have := of_decide_eq_false g; omega⟩
       conv => whnf
       refine ⟨rfl, [_, _], ⟨rfl, rfl, rfl⟩, apB1 (Nat.le_trans hl (by decide)) (by simp), apB2 (Nat.le_trans hl (by decide)) (by simp), ?_⟩
       conv => whnf
       refine ⟨y1, ?_⟩
       conv => whnf
       refine ⟨hy1, ?_⟩
       conv => whnf
       refine ⟨rfl, [_], ⟨rfl, rfl, rfl⟩, apB1 (by simp only [List.length_append, List.length_cons, List.length_nil]; omega) (by simp), apB2 (by simp only [List.length_append, List.length_cons, List.length_nil]; omega) (by simp), ?_⟩
       conv => whnf
       refine ⟨y2, ?_⟩
       conv => whnf
       refine ⟨hy2, ?_⟩
       conv => whnf
       refine ⟨rfl, [_], ⟨rfl, rfl, rfl⟩, apB1 (by simp only [List.length_append, List.length_cons, List.length_nil]; omega) (by simp), apB2 (by simp only [List.length_append, List.length_cons, List.length_nil]; omega) (by simp), ?_⟩
       conv => whnf
       exact Or.inr ⟨[0, 5], _, [.dead, rowB _], ⟨rfl, ⟨l0 _, rfl, rfl, trivial⟩, rfl⟩, rfl, ⟨_, aps (aps rfl), rfl, rfl⟩⟩
     · simp
   by_cases h9 : r = 127
   · apply Exists.intro
     refine ⟨?_, fun l hl => callsA_of_ev c131_ ?_⟩
     rotate_left
     · conv => whnf
       refine Or.inl ?_
       conv => whnf
       rw [e34]
       refine ⟨fun g => by have := beq_iff_eq.1 g; omega, fun _ => ?_⟩
       conv => whnf
       refine ⟨fun g => by have := beq_iff_eq.1 g; omega, fun _ => ?_⟩
       conv => whnf
       refine Or.inl ?_
       conv => whnf
       refine ⟨fun g => zF g, fun _ => ?_⟩
       conv => whnf
       refine cL0 hpr ?_
       rintro _ _ ⟨rfl, rfl⟩
       conv => whnf
       refine ⟨fun g => zF g, fun _ => ?_⟩
       conv => whnf
       refine ⟨fun g => zF g, fun _ => ?_⟩
       conv => whnf
       refine Or.inl ?_
       conv => whnf
       refine ⟨fun g => by have := beq_iff_eq.1 g; omega, fun _ => ?_⟩
       conv => whnf
       refine ⟨fun g => by have := beq_iff_eq.1 g; omega, fun _ => ?_⟩
       conv => whnf
       refine ⟨fun g => by have := beq_iff_eq.1 g; omega, fun _ => ?_⟩
       conv => whnf
       refine ⟨fun g => by have := beq_iff_eq.1 g; omega, fun _ => ?_⟩
       conv => whnf
       refine ⟨fun g => by have := beq_iff_eq.1 g; omega, fun _ => ?_⟩
       conv => whnf
       refine ⟨fun g => by have := beq_iff_eq.1 g; omega, fun _ => ?_⟩
       conv => whnf
       refine ⟨fun g => by have := beq_iff_eq.1 g; omega, fun _ => ?_⟩
       conv => whnf
       refine Or.inl ?_
       conv => whnf
       refine Or.inl ?_
       conv => whnf
       refine Or.inl ?_
       conv => whnf
       refine Or.inl ?_
       conv => whnf
       refine Or.inl ?_
       conv => whnf
       refine Or.inl ?_
       conv => whnf
       refine ⟨fun g => by have := of_decide_eq_true g; omega, fun _ => ?_⟩
       conv => whnf
       refine ⟨fun _ => ?_, fun g => by have := beq_eq_false_iff_ne.1 g; omega⟩
       conv => whnf
       refine ⟨rfl, [_, _], ⟨rfl, rfl, rfl⟩, apB1 (Nat.le_trans hl (by decide)) (by simp), apB2 (Nat.le_trans hl (by decide)) (by simp), ?_⟩
       conv => whnf
       refine ⟨y1, ?_⟩
       conv => whnf
       refine ⟨hy1, ?_⟩
       conv => whnf
       refine ⟨rfl, [_], ⟨rfl, rfl, rfl⟩, apB1 (by simp only [List.length_append, List.length_cons, List.length_nil]; omega) (by simp), apB2 (by simp only [List.length_append, List.length_cons, List.length_nil]; omega) (by simp), ?_⟩
       conv => whnf
       refine ⟨y2, ?_⟩
       conv => whnf
       refine ⟨hy2, ?_⟩
       conv => whnf
       refine ⟨rfl, [_], ⟨rfl, rfl, rfl⟩, apB1 (by simp only [List.length_append, List.length_cons, List.length_nil]; omega) (by simp), apB2 (by simp only [List.length_append, List.length_cons, List.length_nil]; omega) (by simp), ?_⟩
       conv => whnf
       exact Or.inr ⟨[0, 5], _, [.dead, rowB _], ⟨rfl, ⟨l0 _, rfl, rfl, trivial⟩, rfl⟩, rfl, ⟨_, aps (aps rfl), rfl, rfl⟩⟩
     · simp
   obtain ⟨bv, hbv⟩ := validRuneE w0 r
   cases bv with
   | false =>
     obtain ⟨D, hD⟩ := Classical.axiomOfChoice (hexE ((65533 : Nat) : Int))
     apply Exists.intro
     refine ⟨?_, fun l hl => callsA_of_ev c131_ ?_⟩
     rotate_left
     · conv => whnf
       refine Or.inl ?_
       conv => whnf
       rw [e34]
       refine ⟨fun g => by have := beq_iff_eq.1 g; omega, fun _ => ?_⟩
       conv => whnf
       refine ⟨fun g => by have := beq_iff_eq.1 g; omega, fun _ => ?_⟩
       conv => whnf
       refine Or.inl ?_
       conv => whnf
       refine ⟨fun g => zF g, fun _ => ?_⟩
       conv => whnf
       refine cL0 hpr ?_
       rintro _ _ ⟨rfl, rfl⟩
       conv => whnf
       refine ⟨fun g => zF g, fun _ => ?_⟩
       conv => whnf
       refine ⟨fun g => zF g, fun _ => ?_⟩
       conv => whnf
       refine Or.inl ?_
       conv => whnf
       refine ⟨fun g => by have := beq_iff_eq.1 g; omega, fun _ => ?_⟩
       conv => whnf
       refine ⟨fun g => by have := beq_iff_eq.1 g; omega, fun _ => ?_⟩
       conv => whnf
       refine ⟨fun g => by have := beq_iff_eq.1 g; omega, fun _ => ?_⟩
       conv => whnf
       refine ⟨fun g => by have := beq_iff_eq.1 g; omega, fun _ => ?_⟩
       conv => whnf
       refine ⟨fun g => by have := beq_iff_eq.1 g; omega, fun _ => ?_⟩
       conv => whnf
       refine ⟨fun g => by have := beq_iff_eq.1 g; omega, fun _ => ?_⟩
       conv => whnf
       refine ⟨fun g => by have := beq_iff_eq.1 g; omega, fun _ => ?_⟩
       conv => whnf
       refine Or.inl ?_
       conv => whnf
       refine Or.inl ?_
       conv => whnf
       refine Or.inl ?_
       conv => whnf
       refine Or.inl ?_
       conv => whnf
       refine Or.inl ?_
       conv => whnf
       refine Or.inl ?_
       conv => whnf
       refine ⟨fun g => by have := of_decide_eq_true g; omega, fun _ => ?_⟩
       conv => whnf
       refine ⟨fun g => by have := beq_iff_eq.1 g; omega, fun _ => ?_⟩
       conv => whnf
       refine Or.inl ?_
       conv => whnf
       refine cL0 hbv ?_
       rintro _ _ ⟨rfl, rfl⟩
       conv => whnf
       refine ⟨fun _ => ?_, fun g => zT g⟩
       conv => whnf
       refine Or.inl ?_
       conv => whnf
       refine ⟨rfl, [_, _], ⟨rfl, rfl, rfl⟩, apB1 (Nat.le_trans hl (by decide)) (by simp), apB2 (Nat.le_trans hl (by decide)) (by simp), ?_⟩
       conv => whnf
       refine ⟨{j : Nat // j ≤ 4}, fun ⟨j, _⟩ => ⟨[(0, .o (.c (.vec 1 (l ++ (([92, 117] : List Int) ++ (List.range j).map fun i => ((D (12 - 4 * i)).toNat : Int))).length))), (1, .o (.c (.val (.int .i32 ((65533 : Nat) : Int))))), (11, .o (.c (.val (.int .i64 ((12 : Int) - 4 * (j : Int))))))], [.dead, rowB (l ++ (([92, 117] : List Int) ++ (List.range j).map fun i => ((D (12 - 4 * i)).toNat : Int)))]⟩, fun j => 4 - j.1, ⟨⟨0, Nat.zero_le _⟩, [0, 1], ⟨rfl, ⟨l0 _, rfl, rfl, trivial⟩, rfl⟩, rfl, rfl, rfl, trivial⟩, fun ⟨j, hj⟩ => ?_⟩
       conv => whnf
       refine ⟨fun g => ?_, fun g => ?_⟩
       · have g : (12 : Int) - 4 * (j : Int) ≥ 0 := of_decide_eq_true g
         have es : (12 : Int) - 4 * (j : Int) = ((12 - 4 * j : Nat) : Int) := by omega
         have hLl : (l ++ (([92, 117] : List Int) ++ (List.range j).map fun i => ((D (12 - 4 * i)).toNat : Int))).length ≤ 1099511627700 := by
           simp only [List.length_append, List.length_cons, List.length_nil, List.length_map, List.length_range]
           omega
         have hLn : l ++ (([92, 117] : List Int) ++ (List.range (j + 1)).map fun i => ((D (12 - 4 * i)).toNat : Int)) = (l ++ (([92, 117] : List Int) ++ (List.range j).map fun i => ((D (12 - 4 * i)).toNat : Int))) ++ [((D (12 - 4 * j)).toNat : Int)] := by
           rw [List.range_succ, List.map_append, List.append_assoc, List.append_assoc]
           rfl
         conv => whnf
         rw [es, nwrap64 (by omega)]
         refine ⟨Int.natCast_nonneg _, ?_⟩
         conv => whnf
         refine ⟨D (12 - 4 * j), ?_⟩
         conv => whnf
         refine ⟨hD (12 - 4 * j), ?_⟩
         conv => whnf
         refine ⟨rfl, [_], ⟨rfl, rfl, rfl⟩, apB1 (Nat.le_trans hLl (by decide)) (by simp), apB2 (Nat.le_trans hLl (by decide)) (by simp), ?_⟩
         conv => whnf
         refine ⟨⟨j + 1, by omega⟩, ⟨[0, 3], ⟨rfl, (show embH [0, 3] _ [.dead, rowB _] [0, 3] from ⟨l0 _, congrArg (fun z => some (rowB z)) hLn.symm, rfl, trivial⟩), rfl⟩, congrArg (fun z : List Int => some (AV.o (.c (.vec 3 z.length)))) hLn.symm, rfl, eq_i64 ?_, trivial⟩, by show 4 - (j + 1) < 4 - j; omega⟩
         rw [IntKind.wrap_i64]
         omega
       · have g : ¬ (12 : Int) - 4 * (j : Int) ≥ 0 := of_decide_eq_false g
         obtain rfl : j = 4 := by omega
         conv => whnf
         exact Or.inr ⟨[0, 1], _, [.dead, rowB _], ⟨rfl, ⟨l0 _, rfl, rfl, trivial⟩, rfl⟩, rfl, ⟨_, rfl, rfl, rfl⟩⟩
     · simp
   | true =>
     obtain ⟨D, hD⟩ := Classical.axiomOfChoice (hexE r)
     by_cases h10 : r < 65536
     · apply Exists.intro
       refine ⟨?_, fun l hl => callsA_of_ev c131_ ?_⟩
       rotate_left
       · conv => whnf
         refine Or.inl ?_
         conv => whnf
         rw [e34]
         refine ⟨fun g => by have := beq_iff_eq.1 g; omega, fun _ => ?_⟩
         conv => whnf
         refine ⟨fun g => by have := beq_iff_eq.1 g; omega, fun _ => ?_⟩
         conv => whnf
         refine Or.inl ?_
         conv => whnf
         refine ⟨fun g => zF g, fun _ => ?_⟩
         conv => whnf
         refine cL0 hpr ?_
         rintro _ _ ⟨rfl, rfl⟩
         conv => whnf
         refine ⟨fun g => zF g, fun _ => ?_⟩
         conv => whnf
         refine ⟨fun g => zF g, fun _ => ?_⟩
         conv => whnf
         refine Or.inl ?_
         conv => whnf
         refine ⟨fun g => by have := beq_iff_eq.1 g; omega, fun _ => ?_⟩
         conv => whnf
         refine ⟨fun g => by have := beq_iff_eq.1 g; omega, fun _ => ?_⟩
         conv => whnf
         refine ⟨fun g => by have := beq_iff_eq.1 g; omega, fun _ => ?_⟩
         conv => whnf
         refine ⟨fun g => by have := beq_iff_eq.1 g; omega, fun _ => ?_⟩
         conv => whnf
         refine ⟨fun g => by have := beq_iff_eq.1 g; omega, fun _ => ?_⟩
         conv => whnf
         refine ⟨fun g => by have := beq_iff_eq.1 g; omega, fun _ => ?_⟩
         conv => whnf
         refine ⟨fun g => by have := beq_iff_eq.1 g; omega, fun _ => ?_⟩
         conv => whnf
         refine Or.inl ?_
         conv => whnf
         refine Or.inl ?_
         conv => whnf
         refine Or.inl ?_
         conv => whnf
         refine Or.inl ?_
         conv => whnf
         refine Or.inl ?_
         conv => whnf
         refine Or.inl ?_
         conv => whnf
         refine ⟨fun g => by have := of_decide_eq_true g; omega, fun _ => ?_⟩
         conv => whnf
         refine ⟨fun g => by have := beq_iff_eq.1 g; omega, fun _ => ?_⟩
         conv => whnf
         refine Or.inl ?_
         conv => whnf
         refine cL0 hbv ?_
         rintro _ _ ⟨rfl, rfl⟩
         conv => whnf
         refine ⟨fun g => zF g, fun _ => ?_⟩
         conv => whnf
         refine ⟨fun _ => ?_, fun g => by have := of_decide_eq_false g; omega⟩
         conv => whnf
         refine Or.inl ?_
         conv => whnf
         refine ⟨rfl, [_, _], ⟨rfl, rfl, rfl⟩, apB1 (Nat.le_trans hl (by decide)) (by simp), apB2 (Nat.le_trans hl (by decide)) (by simp), ?_⟩
         conv => whnf
         refine ⟨{j : Nat // j ≤ 4}, fun ⟨j, _⟩ => ⟨[(0, .o (.c (.vec 1 (l ++ (([92, 117] : List Int) ++ (List.range j).map fun i => ((D (12 - 4 * i)).toNat : Int))).length))), (1, .o (.c (.val (.int .i32 r)))), (11, .o (.c (.val (.int .i64 ((12 : Int) - 4 * (j : Int))))))], [.dead, rowB (l ++ (([92, 117] : List Int) ++ (List.range j).map fun i => ((D (12 - 4 * i)).toNat : Int)))]⟩, fun j => 4 - j.1, ⟨⟨0, Nat.zero_le _⟩, [0, 1], ⟨rfl, ⟨l0 _, rfl, rfl, trivial⟩, rfl⟩, rfl, rfl, rfl, trivial⟩, fun ⟨j, hj⟩ => ?_⟩
         conv => whnf
         refine ⟨fun g => ?_, fun g => ?_⟩
         · have g : (12 : Int) - 4 * (j : Int) ≥ 0 := of_decide_eq_true g
           have es : (12 : Int) - 4 * (j : Int) = ((12 - 4 * j : Nat) : Int) := by omega
           have hLl : (l ++ (([92, 117] : List Int) ++ (List.range j).map fun i => ((D (12 - 4 * i)).toNat : Int))).length ≤ 1099511627700 := by
             simp only [List.length_append, List.length_cons, List.length_nil, List.length_map, List.length_range]
             omega
           have hLn : l ++ (([92, 117] : List Int) ++ (List.range (j + 1)).map fun i => ((D (12 - 4 * i)).toNat : Int)) = (l ++ (([92, 117] : List Int) ++ (List.range j).map fun i => ((D (12 - 4 * i)).toNat : Int))) ++ [((D (12 - 4 * j)).toNat : Int)] := by
             rw [List.range_succ, List.map_append, List.append_assoc, List.append_assoc]
             rfl
           conv => whnf
           rw [es, nwrap64 (by omega)]
           refine ⟨Int.natCast_nonneg _, ?_⟩
           conv => whnf
           refine ⟨D (12 - 4 * j), ?_⟩
           conv => whnf
           refine ⟨hD (12 - 4 * j), ?_⟩
           conv => whnf
           refine ⟨rfl, [_], ⟨rfl, rfl, rfl⟩, apB1 (Nat.le_trans hLl (by decide)) (by simp), apB2 (Nat.le_trans hLl (by decide)) (by simp), ?_⟩
           conv => whnf
           refine ⟨⟨j + 1, by omega⟩, ⟨[0, 3], ⟨rfl, (show embH [0, 3] _ [.dead, rowB _] [0, 3] from ⟨l0 _, congrArg (fun z => some (rowB z)) hLn.symm, rfl, trivial⟩), rfl⟩, congrArg (fun z : List Int => some (AV.o (.c (.vec 3 z.length)))) hLn.symm, rfl, eq_i64 ?_, trivial⟩, by show 4 - (j + 1) < 4 - j; omega⟩
           rw [IntKind.wrap_i64]
           omega
         · have g : ¬ (12 : Int) - 4 * (j : Int) ≥ 0 := of_decide_eq_false g
           obtain rfl : j = 4 := by omega
           conv => whnf
           exact Or.inr ⟨[0, 1], _, [.dead, rowB _], ⟨rfl, ⟨l0 _, rfl, rfl, trivial⟩, rfl⟩, rfl, ⟨_, rfl, rfl, rfl⟩⟩
       · simp
     · apply Exists.intro
       refine ⟨?_, fun l hl => callsA_of_ev c131_ ?_⟩
       rotate_left
       · conv => whnf
         refine Or.inl ?_
         conv => whnf
         rw [e34]
         refine ⟨fun g => by have := beq_iff_eq.1 g; omega, fun _ => ?_⟩
         conv => whnf
         refine ⟨fun g => by have := beq_iff_eq.1 g; omega, fun _ => ?_⟩
         conv => whnf
         refine Or.inl ?_
         conv => whnf
         refine ⟨fun g => zF g, fun _ => ?_⟩
         conv => whnf
         refine cL0 hpr ?_
         rintro _ _ ⟨rfl, rfl⟩
         conv => whnf
         refine ⟨fun g => zF g, fun _ => ?_⟩
         conv => whnf
         refine ⟨fun g => zF g, fun _ => ?_⟩
         conv => whnf
         refine Or.inl ?_
         conv => whnf
         refine ⟨fun g => by have := beq_iff_eq.1 g; omega, fun _ => ?_⟩
         conv => whnf
         refine ⟨fun g => by have := beq_iff_eq.1 g; omega, fun _ => ?_⟩
         conv => whnf
         refine ⟨fun g => by have := beq_iff_eq.1 g; omega, fun _ => ?_⟩
         conv => whnf
         refine ⟨fun g => by have := beq_iff_eq.1 g; omega, fun _ => ?_⟩
         conv => whnf
         refine ⟨fun g => by have := beq_iff_eq.1 g; omega, fun _ => ?_⟩
         conv => whnf
         refine ⟨fun g => by have := beq_iff_eq.1 g; omega, fun _ => ?_⟩
         conv => whnf
         refine ⟨fun g => by have := beq_iff_eq.1 g; omega, fun _ => ?_⟩
         conv => whnf
         refine Or.inl ?_
         conv => whnf
         refine Or.inl ?_
         conv => whnf
         refine Or.inl ?_
         conv => whnf
         refine Or.inl ?_
         conv => whnf
         refine Or.inl ?_
         conv => whnf
         refine Or.inl ?_
         conv => whnf
         refine ⟨fun g => by have := of_decide_eq_true g; omega, fun _ => ?_⟩
         conv => whnf
         refine ⟨fun g => by have := beq_iff_eq.1 g; omega, fun _ => ?_⟩
         conv => whnf
         refine Or.inl ?_
         conv => whnf
         refine cL0 hbv ?_
         rintro _ _ ⟨rfl, rfl⟩
         conv => whnf
         refine ⟨fun g => zF g, fun _ => ?_⟩
         conv => whnf
         refine ⟨fun g => by have := of_decide_eq_true g; omega, fun _ => ?_⟩
         conv => whnf
         refine Or.inl ?_
         conv => whnf
         refine ⟨rfl, [_, _], ⟨rfl, rfl, rfl⟩, apB1 (Nat.le_trans hl (by decide)) (by simp), apB2 (Nat.le_trans hl (by decide)) (by simp), ?_⟩
         conv => whnf
         refine ⟨{j : Nat // j ≤ 8}, fun ⟨j, _⟩ => ⟨[(0, .o (.c (.vec 1 (l ++ (([92, 85] : List Int) ++ (List.range j).map fun i => ((D (28 - 4 * i)).toNat : Int))).length))), (1, .o (.c (.val (.int .i32 r)))), (12, .o (.c (.val (.int .i64 ((28 : Int) - 4 * (j : Int))))))], [.dead, rowB (l ++ (([92, 85] : List Int) ++ (List.range j).map fun i => ((D (28 - 4 * i)).toNat : Int)))]⟩, fun j => 8 - j.1, ⟨⟨0, Nat.zero_le _⟩, [0, 1], ⟨rfl, ⟨l0 _, rfl, rfl, trivial⟩, rfl⟩, rfl, rfl, rfl, trivial⟩, fun ⟨j, hj⟩ => ?_⟩
         conv => whnf
         refine ⟨fun g => ?_, fun g => ?_⟩
         · have g : (28 : Int) - 4 * (j : Int) ≥ 0 := of_decide_eq_true g
           have es : (28 : Int) - 4 * (j : Int) = ((28 - 4 * j : Nat) : Int) := by omega
           have hLl : (l ++ (([92, 85] : List Int) ++ (List.range j).map fun i => ((D (28 - 4 * i)).toNat : Int))).length ≤ 1099511627700 := by
             simp only [List.length_append, List.length_cons, List.length_nil, List.length_map, List.length_range]
             omega
           have hLn : l ++ (([92, 85] : List Int) ++ (List.range (j + 1)).map fun i => ((D (28 - 4 * i)).toNat : Int)) = (l ++ (([92, 85] : List Int) ++ (List.range j).map fun i => ((D (28 - 4 * i)).toNat : Int))) ++ [((D (28 - 4 * j)).toNat : Int)] := by
             rw [List.range_succ, List.map_append, List.append_assoc, List.append_assoc]
             rfl
           conv => whnf
           rw [es, nwrap64 (by omega)]
           refine ⟨Int.natCast_nonneg _, ?_⟩
           conv => whnf
           refine ⟨D (28 - 4 * j), ?_⟩
           conv => whnf
           refine ⟨hD (28 - 4 * j), ?_⟩
           conv => whnf
           refine ⟨rfl, [_], ⟨rfl, rfl, rfl⟩, apB1 (Nat.le_trans hLl (by decide)) (by simp), apB2 (Nat.le_trans hLl (by decide)) (by simp), ?_⟩
           conv => whnf
           refine ⟨⟨j + 1, by omega⟩, ⟨[0, 3], ⟨rfl, (show embH [0, 3] _ [.dead, rowB _] [0, 3] from ⟨l0 _, congrArg (fun z => some (rowB z)) hLn.symm, rfl, trivial⟩), rfl⟩, congrArg (fun z : List Int => some (AV.o (.c (.vec 3 z.length)))) hLn.symm, rfl, eq_i64 ?_, trivial⟩, by show 8 - (j + 1) < 8 - j; omega⟩
           rw [IntKind.wrap_i64]
           omega
         · have g : ¬ (28 : Int) - 4 * (j : Int) ≥ 0 := of_decide_eq_false g
           obtain rfl : j = 8 := by omega
           conv => whnf
           exact Or.inr ⟨[0, 1], _, [.dead, rowB _], ⟨rfl, ⟨l0 _, rfl, rfl, trivial⟩, rfl⟩, rfl, ⟨_, rfl, rfl, rfl⟩⟩
       · simp
end Go.Proofs.YtokkphocaloelaaGreatDoor

end
section
namespace Go.Proofs.YtokkphocaloelaaGreatDoor
open Go Go.Vc
set_option maxRecDepth 100000
set_option maxHeartbeats 8000000

structure UtT (w0 : World) (F : Nat → Nat) (A : Nat → Nat × Nat) : Prop where
 f : ∀ i, i < 256 → w0.cell? ((Addr.mk 14 0 none).add (i * 1)) = some (.int .u8 (F i : Nat))
 fl : ∀ i, i < 256 → F i < 256
 a0 : ∀ k, k < 16 → w0.cell? (((Addr.mk 15 0 none).add (k * 2)).add 0) = some (.int .u8 ((A k).1 : Nat))
 a1 : ∀ k, k < 16 → w0.cell? (((Addr.mk 15 0 none).add (k * 2)).add 1) = some (.int .u8 ((A k).2 : Nat))
 sz : ∀ i, 128 ≤ i → i < 256 → (240 ≤ F i → F i = 241) ∧ (F i < 240 → 2 ≤ F i % 8)
theorem esz {x : Nat} (h : x < 256) : IntKind.i64.wrap (IntKind.u8.wrap (((BitVec.ofInt IntKind.u8.bits (x : Int) &&& BitVec.ofInt IntKind.u8.bits ((7 : Nat) : Int)).toNat : Nat) : Int)) = ((x % 8 : Nat) : Int) := by
 rw [nand8 h (by decide), show x &&& 7 = x % 8 from Nat.and_two_pow_sub_one_eq_mod x 3, nwrapi (by omega)]
theorem decSlowE {w0 : World} {F : Nat → Nat} {A : Nat → Nat × Nat} (ht : UtT w0 F A) {s : ByteArray} {y0 : UInt8} (hy0 : s[0]? = some y0) (h128 : 128 ≤ y0.toNat) : ∃ (r : Int) (w : Nat), 1 ≤ w ∧ w ≤ s.size ∧ CallsA Tryz.prog w0 136 [.c (.val (.string s))] [] fun x H => x = .t [.c (.val (.int .i32 r)), .c (.val (.int .i64 (w : Nat)))] ∧ H = [] := by
 have hs : 0 < s.size := by
   rcases Nat.eq_zero_or_pos s.size with h | h
   · rw [getElem?_neg s 0 (by omega)] at hy0
     cases hy0
   · exact h
 have hy8 : y0.toNat < 256 := y0.toNat_lt
 have hF := ht.fl _ hy8
 obtain ⟨hz1, hz2⟩ := ht.sz _ h128 hy8
 have hz := esz hF
 have ek : ((F y0.toNat : Nat) : Int).fdiv ((2 : Int) ^ min 4 IntKind.u8.bits) = ((F y0.toNat / 2 ^ 4 : Nat) : Int) := nshr8 _ 4 (by decide)
 by_cases c1 : 240 ≤ F y0.toNat
 · apply Exists.intro
   refine ⟨1, Nat.le_refl _, hs, callsA_of_ev c136_ ?_⟩
   conv => whnf
   refine Or.inl ?_
   conv => whnf
   refine ⟨fun g => by have := of_decide_eq_true g; omega, fun _ => ?_⟩
   conv => whnf
   refine ⟨y0, ?_⟩
   conv => whnf
   refine ⟨si_at hy0, ?_⟩
   conv => whnf
   refine ⟨⟨Int.natCast_nonneg _, Int.ofNat_lt.2 hy8⟩, ?_⟩
   conv => whnf
   refine ⟨.int .u8 (F y0.toNat : Nat), ?_⟩
   conv => whnf
   refine ⟨ht.f _ hy8, ?_⟩
   conv => whnf
   refine ⟨rfl, ?_⟩
   conv => whnf
   refine Or.inl ?_
   conv => whnf
   refine ⟨fun _ => ?_, fun g => by have := of_decide_eq_false g; omega⟩
   conv => whnf
   refine ⟨y0, ?_⟩
   conv => whnf
   refine ⟨si_at hy0, ?_⟩
   conv => whnf
   exact Or.inr ⟨[], _, [], ⟨rfl, trivial, rfl⟩, rfl, rfl, rfl⟩
 by_cases c2 : s.size < F y0.toNat % 8
 · refine ⟨((65533 : Nat) : Int), 1, Nat.le_refl _, hs, callsA_of_ev c136_ ?_⟩
   conv => whnf
   refine Or.inl ?_
   conv => whnf
   refine ⟨fun g => by have := of_decide_eq_true g; omega, fun _ => ?_⟩
   conv => whnf
   refine ⟨y0, ?_⟩
   conv => whnf
   refine ⟨si_at hy0, ?_⟩
   conv => whnf
   refine ⟨⟨Int.natCast_nonneg _, Int.ofNat_lt.2 hy8⟩, ?_⟩
   conv => whnf
   refine ⟨.int .u8 (F y0.toNat : Nat), ?_⟩
   conv => whnf
   refine ⟨ht.f _ hy8, ?_⟩
   conv => whnf
   refine ⟨rfl, ?_⟩
   conv => whnf
   refine Or.inl ?_
   conv => whnf
   refine ⟨fun g => by have := of_decide_eq_true g; omega, fun _ => ?_⟩
   conv => whnf
   rw [ek]
   refine ⟨⟨Int.natCast_nonneg _, Int.ofNat_lt.2 (by omega)⟩, ?_⟩
   conv => whnf
   refine ⟨.int .u8 ((A (F y0.toNat / 2 ^ 4)).1 : Nat), ?_⟩
   conv => whnf
   refine ⟨ht.a0 _ (by omega), ?_⟩
   conv => whnf
   refine ⟨rfl, ?_⟩
   conv => whnf
   refine ⟨.int .u8 ((A (F y0.toNat / 2 ^ 4)).2 : Nat), ?_⟩
   conv => whnf
   refine ⟨ht.a1 _ (by omega), ?_⟩
   conv => whnf
   refine ⟨rfl, ?_⟩
   conv => whnf
   refine Or.inl ?_
   conv => whnf
   refine ⟨fun _ => ?_, fun g => by have := of_decide_eq_false g; omega⟩
   conv => whnf
   exact Or.inr ⟨[], _, [], ⟨rfl, trivial, rfl⟩, rfl, rfl, rfl⟩
 have hlt : ∀ {i : Nat}, i < s.size → ∃ y : UInt8, s[i]? = some y := fun h => ⟨_, getElem?_pos s _ h⟩
 obtain ⟨y1, hy1⟩ := hlt (i := 1) (by omega)
 by_cases c3 : y1.toNat < (A (F y0.toNat / 2 ^ 4)).1
 · refine ⟨((65533 : Nat) : Int), 1, Nat.le_refl _, hs, callsA_of_ev c136_ ?_⟩
   conv => whnf
   refine Or.inl ?_
   conv => whnf
   refine ⟨fun g => by have := of_decide_eq_true g; omega, fun _ => ?_⟩
   conv => whnf
   refine ⟨y0, ?_⟩
   conv => whnf
   refine ⟨si_at hy0, ?_⟩
   conv => whnf
   refine ⟨⟨Int.natCast_nonneg _, Int.ofNat_lt.2 hy8⟩, ?_⟩
   conv => whnf
   refine ⟨.int .u8 (F y0.toNat : Nat), ?_⟩
   conv => whnf
   refine ⟨ht.f _ hy8, ?_⟩
   conv => whnf
   refine ⟨rfl, ?_⟩
   conv => whnf
   refine Or.inl ?_
   conv => whnf
   refine ⟨fun g => by have := of_decide_eq_true g; omega, fun _ => ?_⟩
   conv => whnf
   rw [ek]
   refine ⟨⟨Int.natCast_nonneg _, Int.ofNat_lt.2 (by omega)⟩, ?_⟩
   conv => whnf
   refine ⟨.int .u8 ((A (F y0.toNat / 2 ^ 4)).1 : Nat), ?_⟩
   conv => whnf
   refine ⟨ht.a0 _ (by omega), ?_⟩
   conv => whnf
   refine ⟨rfl, ?_⟩
   conv => whnf
   refine ⟨.int .u8 ((A (F y0.toNat / 2 ^ 4)).2 : Nat), ?_⟩
   conv => whnf
   refine ⟨ht.a1 _ (by omega), ?_⟩
   conv => whnf
   refine ⟨rfl, ?_⟩
   conv => whnf
   refine Or.inl ?_
   conv => whnf
   refine ⟨fun g => by have := of_decide_eq_true g; omega, fun _ => ?_⟩
   conv => whnf
   refine ⟨y1, ?_⟩
   conv => whnf
   refine ⟨si_at hy1, ?_⟩
   conv => whnf
   refine Or.inl ?_
   conv => whnf
   refine ⟨fun _ => ?_, fun g => by have := of_decide_eq_false g; omega⟩
   conv => whnf
   exact Or.inr ⟨[], _, [], ⟨rfl, trivial, rfl⟩, rfl, rfl, rfl⟩
 by_cases c4 : (A (F y0.toNat / 2 ^ 4)).2 < y1.toNat
 · refine ⟨((65533 : Nat) : Int), 1, Nat.le_refl _, hs, callsA_of_ev c136_ ?_⟩
   conv => whnf
   refine Or.inl ?_
   conv => whnf
   refine ⟨fun g => by have := of_decide_eq_true g; omega, fun _ => ?_⟩
   conv => whnf
   refine ⟨y0, ?_⟩
   conv => whnf
   refine ⟨si_at hy0, ?_⟩
   conv => whnf
   refine ⟨⟨Int.natCast_nonneg _, Int.ofNat_lt.2 hy8⟩, ?_⟩
   conv => whnf
   refine ⟨.int .u8 (F y0.toNat : Nat), ?_⟩
   conv => whnf
   refine ⟨ht.f _ hy8, ?_⟩
   conv => whnf
   refine ⟨rfl, ?_⟩
   conv => whnf
   refine Or.inl ?_
   conv => whnf
   refine ⟨fun g => by have := of_decide_eq_true g; omega, fun _ => ?_⟩
   conv => whnf
   rw [ek]
   refine ⟨⟨Int.natCast_nonneg _, Int.ofNat_lt.2 (by omega)⟩, ?_⟩
   conv => whnf
   refine ⟨.int .u8 ((A (F y0.toNat / 2 ^ 4)).1 : Nat), ?_⟩
   conv => whnf
   refine ⟨ht.a0 _ (by omega), ?_⟩
   conv => whnf
   refine ⟨rfl, ?_⟩
   conv => whnf
   refine ⟨.int .u8 ((A (F y0.toNat / 2 ^ 4)).2 : Nat), ?_⟩
   conv => whnf
   refine ⟨ht.a1 _ (by omega), ?_⟩
   conv => whnf
   refine ⟨rfl, ?_⟩
   conv => whnf
   refine Or.inl ?_
   conv => whnf
   refine ⟨fun g => by have := of_decide_eq_true g; omega, fun _ => ?_⟩
   conv => whnf
   refine ⟨y1, ?_⟩
   conv => whnf
   refine ⟨si_at hy1, ?_⟩
   conv => whnf
   refine Or.inl ?_
   conv => whnf
   refine ⟨fun g => by have := of_decide_eq_true g; omega, fun _ => ?_⟩
   conv => whnf
   refine ⟨fun _ => ?_, fun g => by have := of_decide_eq_false g; omega⟩
   conv => whnf
   exact Or.inr ⟨[], _, [], ⟨rfl, trivial, rfl⟩, rfl, rfl, rfl⟩
 by_cases c5 : F y0.toNat % 8 ≤ 2
 · apply Exists.intro
   refine ⟨2, by omega, by omega, callsA_of_ev c136_ ?_⟩
   conv => whnf
   refine Or.inl ?_
   conv => whnf
   refine ⟨fun g => by have := of_decide_eq_true g; omega, fun _ => ?_⟩
   conv => whnf
   refine ⟨y0, ?_⟩
   conv => whnf
   refine ⟨si_at hy0, ?_⟩
   conv => whnf
   refine ⟨⟨Int.natCast_nonneg _, Int.ofNat_lt.2 hy8⟩, ?_⟩
   conv => whnf
   refine ⟨.int .u8 (F y0.toNat : Nat), ?_⟩
   conv => whnf
   refine ⟨ht.f _ hy8, ?_⟩
   conv => whnf
   refine ⟨rfl, ?_⟩
   conv => whnf
   refine Or.inl ?_
   conv => whnf
   refine ⟨fun g => by have := of_decide_eq_true g; omega, fun _ => ?_⟩
   conv => whnf
   rw [ek]
   refine ⟨⟨Int.natCast_nonneg _, Int.ofNat_lt.2 (by omega)⟩, ?_⟩
   conv => whnf
   refine ⟨.int .u8 ((A (F y0.toNat / 2 ^ 4)).1 : Nat), ?_⟩
   conv => whnf
   refine ⟨ht.a0 _ (by omega), ?_⟩
   conv => whnf
   refine ⟨rfl, ?_⟩
   conv => whnf
   refine ⟨.int .u8 ((A (F y0.toNat / 2 ^ 4)).2 : Nat), ?_⟩
   conv => whnf
   refine ⟨ht.a1 _ (by omega), ?_⟩
   conv => whnf
   refine ⟨rfl, ?_⟩
   conv => whnf
   refine Or.inl ?_
   conv => whnf
   refine ⟨fun g => by have := of_decide_eq_true g; omega, fun _ => ?_⟩
   conv => whnf
   refine ⟨y1, ?_⟩
   conv => whnf
   refine ⟨si_at hy1, ?_⟩
   conv => whnf
   refine Or.inl ?_
   conv => whnf
   refine ⟨fun g => by have := of_decide_eq_true g; omega, fun _ => ?_⟩
   conv => whnf
   refine ⟨fun g => by have := of_decide_eq_true g; omega, fun _ => ?_⟩
   conv => whnf
   refine Or.inl ?_
   conv => whnf
   refine ⟨fun _ => ?_, fun g => by have := of_decide_eq_false g; omega⟩
   conv => whnf
   exact Or.inr ⟨[], _, [], ⟨rfl, trivial, rfl⟩, rfl, rfl, rfl⟩
 obtain ⟨y2, hy2⟩ := hlt (i := 2) (by omega)
 by_cases c6 : y2.toNat < 128
 · refine ⟨((65533 : Nat) : Int), 1, Nat.le_refl _, hs, callsA_of_ev c136_ ?_⟩
   conv => whnf
   refine Or.inl ?_
   conv => whnf
   refine ⟨fun g => by have := of_decide_eq_true g; omega, fun _ => ?_⟩
   conv => whnf
   refine ⟨y0, ?_⟩
   conv => whnf
   refine ⟨si_at hy0, ?_⟩
   conv => whnf
   refine ⟨⟨Int.natCast_nonneg _, Int.ofNat_lt.2 hy8⟩, ?_⟩
   conv => whnf
   refine ⟨.int .u8 (F y0.toNat : Nat), ?_⟩
   conv => whnf
   refine ⟨ht.f _ hy8, ?_⟩
   conv => whnf
   refine ⟨rfl, ?_⟩
   conv => whnf
   refine Or.inl ?_
   conv => whnf
   refine ⟨fun g => by have := of_decide_eq_true g; omega, fun _ => ?_⟩
   conv => whnf
   rw [ek]
   refine ⟨⟨Int.natCast_nonneg _, Int.ofNat_lt.2 (by omega)⟩, ?_⟩
   conv => whnf
   refine ⟨.int .u8 ((A (F y0.toNat / 2 ^ 4)).1 : Nat), ?_⟩
   conv => whnf
   refine ⟨ht.a0 _ (by omega), ?_⟩
   conv => whnf
   refine ⟨rfl, ?_⟩
   conv => whnf
   refine ⟨.int .u8 ((A (F y0.toNat / 2 ^ 4)).2 : Nat), ?_⟩
   conv => whnf
   refine ⟨ht.a1 _ (by omega), ?_⟩
   conv => whnf
   refine ⟨rfl, ?_⟩
   conv => whnf
   refine Or.inl ?_
   conv => whnf
   refine ⟨fun g => by have := of_decide_eq_true g; omega, fun _ => ?_⟩
   conv => whnf
   refine ⟨y1, ?_⟩
   conv => whnf
   refine ⟨si_at hy1, ?_⟩
   conv => whnf
   refine Or.inl ?_
   conv => whnf
   refine ⟨fun g => by have := of_decide_eq_true g; omega, fun _ => ?_⟩
   conv => whnf
   refine ⟨fun g => by have := of_decide_eq_true g; omega, fun _ => ?_⟩
   conv => whnf
   refine Or.inl ?_
   conv => whnf
   refine ⟨fun g => by have := of_decide_eq_true g; omega, fun _ => ?_⟩
   conv => whnf
   refine ⟨y2, ?_⟩
   conv => whnf
   refine ⟨si_at hy2, ?_⟩
   conv => whnf
   refine Or.inl ?_
   conv => whnf
   refine ⟨fun _ => ?_, fun g => by have := of_decide_eq_false g; omega⟩
   conv => whnf
   exact Or.inr ⟨[], _, [], ⟨rfl, trivial, rfl⟩, rfl, rfl, rfl⟩
 by_cases c7 : 191 < y2.toNat
 · refine ⟨((65533 : Nat) : Int), 1, Nat.le_refl _, hs, callsA_of_ev c136_ ?_⟩
   conv => whnf
   refine Or.inl ?_
   conv => whnf
   refine ⟨fun g => by have := of_decide_eq_true g; omega, fun _ => ?_⟩
   conv => whnf
   refine ⟨y0, ?_⟩
   conv => whnf
   refine ⟨si_at hy0, ?_⟩
   conv => whnf
   refine ⟨⟨Int.natCast_nonneg _, Int.ofNat_lt.2 hy8⟩, ?_⟩
   conv => whnf
   refine ⟨.int .u8 (F y0.toNat : Nat), ?_⟩
   conv => whnf
   refine ⟨ht.f _ hy8, ?_⟩
   conv => whnf
   refine ⟨rfl, ?_⟩
   conv => whnf
   refine Or.inl ?_
   conv => whnf
   refine ⟨fun g => by have := of_decide_eq_true g; omega, fun _ => ?_⟩
   conv => whnf
   rw [ek]
   refine ⟨⟨Int.natCast_nonneg _, Int.ofNat_lt.2 (by omega)⟩, ?_⟩
   conv => whnf
   refine ⟨.int .u8 ((A (F y0.toNat / 2 ^ 4)).1 : Nat), ?_⟩
   conv => whnf
   refine ⟨ht.a0 _ (by omega), ?_⟩
   conv => whnf
   refine ⟨rfl, ?_⟩
   conv => whnf
   refine ⟨.int .u8 ((A (F y0.toNat / 2 ^ 4)).2 : Nat), ?_⟩
   conv => whnf
   refine ⟨ht.a1 _ (by omega), ?_⟩
   conv => whnf
   refine ⟨rfl, ?_⟩
   conv => whnf
   refine Or.inl ?_
   conv => whnf
   refine ⟨fun g => by have := of_decide_eq_true g; omega, fun _ => ?_⟩
   conv => whnf
   refine ⟨y1, ?_⟩
   conv => whnf
   refine ⟨si_at hy1, ?_⟩
   conv => whnf
   refine Or.inl ?_
   conv => whnf
   refine ⟨fun g => by have := of_decide_eq_true g; omega, fun _ => ?_⟩
   conv => whnf
   refine ⟨fun g => by have := of_decide_eq_true g; omega, fun _ => ?_⟩
   conv => whnf
   refine Or.inl ?_
   conv => whnf
   refine ⟨fun g => by have := of_decide_eq_true g; omega, fun _ => ?_⟩
   conv => whnf
   refine ⟨y2, ?_⟩
   conv => whnf
   refine ⟨si_at hy2, ?_⟩
   conv => whnf
   refine Or.inl ?_
   conv => whnf
   refine ⟨fun g => by have := of_decide_eq_true g; omega, fun _ => ?_⟩
   conv => whnf
   refine ⟨fun _ => ?_, fun g => by have := of_decide_eq_false g; omega⟩
   conv => whnf
   exact Or.inr ⟨[], _, [], ⟨rfl, trivial, rfl⟩, rfl, rfl, rfl⟩
 by_cases c8 : F y0.toNat % 8 ≤ 3
 · apply Exists.intro
   refine ⟨3, by omega, by omega, callsA_of_ev c136_ ?_⟩
   conv => whnf
   refine Or.inl ?_
   conv => whnf
   refine ⟨fun g => by have := of_decide_eq_true g; omega, fun _ => ?_⟩
   conv => whnf
   refine ⟨y0, ?_⟩
   conv => whnf
   refine ⟨si_at hy0, ?_⟩
   conv => whnf
   refine ⟨⟨Int.natCast_nonneg _, Int.ofNat_lt.2 hy8⟩, ?_⟩
   conv => whnf
   refine ⟨.int .u8 (F y0.toNat : Nat), ?_⟩
   conv => whnf
   refine ⟨ht.f _ hy8, ?_⟩
   conv => whnf
   refine ⟨rfl, ?_⟩
   conv => whnf
   refine Or.inl ?_
   conv => whnf
   refine ⟨fun g => by have := of_decide_eq_true g; omega, fun _ => ?_⟩
   conv => whnf
   rw [ek]
   refine ⟨⟨Int.natCast_nonneg _, Int.ofNat_lt.2 (by omega)⟩, ?_⟩
   conv => whnf
   refine ⟨.int .u8 ((A (F y0.toNat / 2 ^ 4)).1 : Nat), ?_⟩
   conv => whnf
   refine ⟨ht.a0 _ (by omega), ?_⟩
   conv => whnf
   refine ⟨rfl, ?_⟩
   conv => whnf
   refine ⟨.int .u8 ((A (F y0.toNat / 2 ^ 4)).2 : Nat), ?_⟩
   conv => whnf
   refine ⟨ht.a1 _ (by omega), ?_⟩
   conv => whnf
   refine ⟨rfl, ?_⟩
   conv => whnf
   refine Or.inl ?_
   conv => whnf
   refine ⟨fun g => by have := of_decide_eq_true g; omega, fun _ => ?_⟩
   conv => whnf
   refine ⟨y1, ?_⟩
   conv => whnf
   refine ⟨si_at hy1, ?_⟩
   conv => whnf
   refine Or.inl ?_
   conv => whnf
   refine ⟨fun g => by have := of_decide_eq_true g; omega, fun _ => ?_⟩
   conv => whnf
   refine ⟨fun g => by have := of_decide_eq_true g; omega, fun _ => ?_⟩
   conv => whnf
   refine Or.inl ?_
   conv => whnf
   refine ⟨fun g => by have := of_decide_eq_true g; omega, fun _ => ?_⟩
   conv => whnf
   refine ⟨y2, ?_⟩
   conv => whnf
   refine ⟨si_at hy2, ?_⟩
   conv => whnf
   refine Or.inl ?_
   conv => whnf
   refine ⟨fun g => by have := of_decide_eq_true g; omega, fun _ => ?_⟩
   conv => whnf
   refine ⟨fun g => by have := of_decide_eq_true g; omega, fun _ => ?_⟩
   conv => whnf
   refine Or.inl ?_
   conv => whnf
   refine ⟨fun _ => ?_, fun g => by have := of_decide_eq_false g; omega⟩
   conv => whnf
   exact Or.inr ⟨[], _, [], ⟨rfl, trivial, rfl⟩, rfl, rfl, rfl⟩
 obtain ⟨y3, hy3⟩ := hlt (i := 3) (by omega)
 by_cases c9 : y3.toNat < 128
 · refine ⟨((65533 : Nat) : Int), 1, Nat.le_refl _, hs, callsA_of_ev c136_ ?_⟩
   conv => whnf
   refine Or.inl ?_
   conv => whnf
   refine ⟨fun g => by have := of_decide_eq_true g; omega, fun _ => ?_⟩
   conv => whnf
   refine ⟨y0, ?_⟩
   conv => whnf
   refine ⟨si_at hy0, ?_⟩
   conv => whnf
   refine ⟨⟨Int.natCast_nonneg _, Int.ofNat_lt.2 hy8⟩, ?_⟩
   conv => whnf
   refine ⟨.int .u8 (F y0.toNat : Nat), ?_⟩
   conv => whnf
   refine ⟨ht.f _ hy8, ?_⟩
   conv => whnf
   refine ⟨rfl, ?_⟩
   conv => whnf
   refine Or.inl ?_
   conv => whnf
   refine ⟨fun g => by have := of_decide_eq_true g; omega, fun _ => ?_⟩
   conv => whnf
   rw [ek]
   refine ⟨⟨Int.natCast_nonneg _, Int.ofNat_lt.2 (by omega)⟩, ?_⟩
   conv => whnf
   refine ⟨.int .u8 ((A (F y0.toNat / 2 ^ 4)).1 : Nat), ?_⟩
   conv => whnf
   refine ⟨ht.a0 _ (by omega), ?_⟩
   conv => whnf
   refine ⟨rfl, ?_⟩
   conv => whnf
   refine ⟨.int .u8 ((A (F y0.toNat / 2 ^ 4)).2 : Nat), ?_⟩
   conv => whnf
   refine ⟨ht.a1 _ (by omega), ?_⟩
   conv => whnf
   refine ⟨rfl, ?_⟩
   conv => whnf
   refine Or.inl ?_
   conv => whnf
   refine ⟨fun g => by have := of_decide_eq_true g; omega, fun _ => ?_⟩
   conv => whnf
   refine ⟨y1, ?_⟩
   conv => whnf
   refine ⟨si_at hy1, ?_⟩
   conv => whnf
   refine Or.inl ?_
   conv => whnf
   refine ⟨fun g => by have := of_decide_eq_true g; omega, fun _ => ?_⟩
   conv => whnf
   refine ⟨fun g => by have := of_decide_eq_true g; omega, fun _ => ?_⟩
   conv => whnf
   refine Or.inl ?_
   conv => whnf
   refine ⟨fun g => by have := of_decide_eq_true g; omega, fun _ => ?_⟩
   conv => whnf
   refine ⟨y2, ?_⟩
   conv => whnf
   refine ⟨si_at hy2, ?_⟩
   conv => whnf
   refine Or.inl ?_
   conv => whnf
   refine ⟨fun g => by have := of_decide_eq_true g; omega, fun _ => ?_⟩
   conv => whnf
   refine ⟨fun g => by have := of_decide_eq_true g; omega, fun _ => ?_⟩
   conv => whnf
   refine Or.inl ?_
   conv => whnf
   refine ⟨fun g => by have := of_decide_eq_true g; omega, fun _ => ?_⟩
   conv => whnf
   refine ⟨y3, ?_⟩
   conv => whnf
   refine ⟨si_at hy3, ?_⟩
   conv => whnf
   refine Or.inl ?_
   conv => whnf
   refine ⟨fun _ => ?_, fun g => by have := of_decide_eq_false g; omega⟩
   conv => whnf
   exact Or.inr ⟨[], _, [], ⟨rfl, trivial, rfl⟩, rfl, rfl, rfl⟩
 by_cases c10 : 191 < y3.toNat
 · refine ⟨((65533 : Nat) : Int), 1, Nat.le_refl _, hs, callsA_of_ev c136_ ?_⟩
   conv => whnf
   refine Or.inl ?_
   conv => whnf
   refine ⟨fun g => by have := of_decide_eq_true g; omega, fun _ => ?_⟩
   conv => whnf
   refine ⟨y0, ?_⟩
   conv => whnf
   refine ⟨si_at hy0, ?_⟩
   conv => whnf
   refine ⟨⟨Int.natCast_nonneg _, Int.ofNat_lt.2 hy8⟩, ?_⟩
   conv => whnf
   refine ⟨.int .u8 (F y0.toNat : Nat), ?_⟩
   conv => whnf
   refine ⟨ht.f _ hy8, ?_⟩
   conv => whnf
   refine ⟨rfl, ?_⟩
   conv => whnf
   refine Or.inl ?_
   conv => whnf
   refine ⟨fun g => by have := of_decide_eq_true g; omega, fun _ => ?_⟩
   conv => whnf
   rw [ek]
   refine ⟨⟨Int.natCast_nonneg _, Int.ofNat_lt.2 (by omega)⟩, ?_⟩
   conv => whnf
   refine ⟨.int .u8 ((A (F y0.toNat / 2 ^ 4)).1 : Nat), ?_⟩
   conv => whnf
   refine ⟨ht.a0 _ (by omega), ?_⟩
   conv => whnf
   refine ⟨rfl, ?_⟩
   conv => whnf
   refine ⟨.int .u8 ((A (F y0.toNat / 2 ^ 4)).2 : Nat), ?_⟩
   conv => whnf
   refine ⟨ht.a1 _ (by omega), ?_⟩
   conv => whnf
   refine ⟨rfl, ?_⟩
   conv => whnf
   refine Or.inl ?_
   conv => whnf
   refine ⟨fun g => by have := of_decide_eq_true g; omega, fun _ => ?_⟩
   conv => whnf
   refine ⟨y1, ?_⟩
   conv => whnf
   refine ⟨si_at hy1, ?_⟩
   conv => whnf
   refine Or.inl ?_
   conv => whnf
   refine ⟨fun g => by have := of_decide_eq_true g; omega, fun _ => ?_⟩
   conv => whnf
   refine ⟨fun g => by have := of_decide_eq_true g; omega, fun _ => ?_⟩
   conv => whnf
   refine Or.inl ?_
   conv => whnf
   refine ⟨fun g => by have := of_decide_eq_true g; omega, fun _ => ?_⟩
   conv => whnf
   refine ⟨y2, ?_⟩
   conv => whnf
   refine ⟨si_at hy2, ?_⟩
   conv => whnf
   refine Or.inl ?_
   conv => whnf
   refine ⟨fun g => by have := of_decide_eq_true g; omega, fun _ => ?_⟩
   conv => whnf
   refine ⟨fun g => by have := of_decide_eq_true g; omega, fun _ => ?_⟩
   conv => whnf
   refine Or.inl ?_
   conv => whnf
   refine ⟨fun g => by have := of_decide_eq_true g; omega, fun _ => ?_⟩
   conv => whnf
   refine ⟨y3, ?_⟩
   conv => whnf
   refine ⟨si_at hy3, ?_⟩
   conv => whnf
   refine Or.inl ?_
   conv => whnf
   refine ⟨fun g => by have := of_decide_eq_true g; omega, fun _ => ?_⟩
   conv => whnf
   refine ⟨fun _ => ?_, fun g => by have := of_decide_eq_false g; omega⟩
   conv => whnf
   exact Or.inr ⟨[], _, [], ⟨rfl, trivial, rfl⟩, rfl, rfl, rfl⟩
 · apply Exists.intro
   refine ⟨4, by omega, by omega, callsA_of_ev c136_ ?_⟩
   conv => whnf
   refine Or.inl ?_
   conv => whnf
   refine ⟨fun g => by have := of_decide_eq_true g; omega, fun _ => ?_⟩
   conv => whnf
   refine ⟨y0, ?_⟩
   conv => whnf
   refine ⟨si_at hy0, ?_⟩
   conv => whnf
   refine ⟨⟨Int.natCast_nonneg _, Int.ofNat_lt.2 hy8⟩, ?_⟩
   conv => whnf
   refine ⟨.int .u8 (F y0.toNat : Nat), ?_⟩
   conv => whnf
   refine ⟨ht.f _ hy8, ?_⟩
   conv => whnf
   refine ⟨rfl, ?_⟩
   conv => whnf
   refine Or.inl ?_
   conv => whnf
   refine ⟨fun g => by have := of_decide_eq_true g; omega, fun _ => ?_⟩
   conv => whnf
   rw [ek]
   refine ⟨⟨Int.natCast_nonneg _, Int.ofNat_lt.2 (by omega)⟩, ?_⟩
   conv => whnf
   refine ⟨.int .u8 ((A (F y0.toNat / 2 ^ 4)).1 : Nat), ?_⟩
   conv => whnf
   refine ⟨ht.a0 _ (by omega), ?_⟩
   conv => whnf
   refine ⟨rfl, ?_⟩
   conv => whnf
   refine ⟨.int .u8 ((A (F y0.toNat / 2 ^ 4)).2 : Nat), ?_⟩
   conv => whnf
   refine ⟨ht.a1 _ (by omega), ?_⟩
   conv => whnf
   refine ⟨rfl, ?_⟩
   conv => whnf
   refine Or.inl ?_
   conv => whnf
   refine ⟨fun g => by have := of_decide_eq_true g; omega, fun _ => ?_⟩
   conv => whnf
   refine ⟨y1, ?_⟩
   conv => whnf
   refine ⟨si_at hy1, ?_⟩
   conv => whnf
   refine Or.inl ?_
   conv => whnf
   refine ⟨fun g => by have := of_decide_eq_true g; omega, fun _ => ?_⟩
   conv => whnf
   refine ⟨fun g => by have := of_decide_eq_true g; omega, fun _ => ?_⟩
   conv => whnf
   refine Or.inl ?_
   conv => whnf
   refine ⟨fun g => by have := of_decide_eq_true g; omega, fun _ => ?_⟩
   conv => whnf
   refine ⟨y2, ?_⟩
   conv => whnf
   refine ⟨si_at hy2, ?_⟩
   conv => whnf
   refine Or.inl ?_
   conv => whnf
   refine ⟨fun g => by have := of_decide_eq_true g; omega, fun _ => ?_⟩
   conv => whnf
   refine ⟨fun g => by have := of_decide_eq_true g; omega, fun _ => ?_⟩
   conv => whnf
   refine Or.inl ?_
   conv => whnf
   refine ⟨fun g => by have := of_decide_eq_true g; omega, fun _ => ?_⟩
   conv => whnf
   refine ⟨y3, ?_⟩
   conv => whnf
   refine ⟨si_at hy3, ?_⟩
   conv => whnf
   refine Or.inl ?_
   conv => whnf
   refine ⟨fun g => by have := of_decide_eq_true g; omega, fun _ => ?_⟩
   conv => whnf
   refine ⟨fun g => by have := of_decide_eq_true g; omega, fun _ => ?_⟩
   conv => whnf
   exact Or.inr ⟨[], _, [], ⟨rfl, trivial, rfl⟩, rfl, rfl, rfl⟩
theorem decE {w0 : World} {F : Nat → Nat} {A : Nat → Nat × Nat} (ht : UtT w0 F A) {s : ByteArray} (hs : 0 < s.size) : ∃ (r : Int) (w : Nat), 1 ≤ w ∧ w ≤ s.size ∧ CallsA Tryz.prog w0 130 [.c (.val (.string s))] [] fun x H => x = .t [.c (.val (.int .i32 r)), .c (.val (.int .i64 (w : Nat)))] ∧ H = [] := by
 obtain ⟨y0, hy0⟩ : ∃ y : UInt8, s[0]? = some y := ⟨_, getElem?_pos s _ hs⟩
 have hne : s ≠ ByteArray.mk #[] := by
   rintro rfl
   exact absurd hs (by decide)
 by_cases c1 : y0.toNat < 128
 · apply Exists.intro
   refine ⟨1, Nat.le_refl _, hs, callsA_of_ev c130_ ?_⟩
   conv => whnf
   refine Or.inl ?_
   conv => whnf
   refine ⟨fun _ => ?_, fun g => absurd (strq_t g) hne⟩
   conv => whnf
   refine ⟨y0, ?_⟩
   conv => whnf
   refine ⟨si_at hy0, ?_⟩
   conv => whnf
   refine ⟨fun _ => ?_, fun g => by have := of_decide_eq_false g; omega⟩
   conv => whnf
   refine ⟨y0, ?_⟩
   conv => whnf
   refine ⟨si_at hy0, ?_⟩
   conv => whnf
   exact Or.inr ⟨[], _, [], ⟨rfl, trivial, rfl⟩, rfl, rfl, rfl⟩
 · obtain ⟨r, w, h1, h2, hc⟩ := decSlowE ht hy0 (by omega)
   refine ⟨r, w, h1, h2, callsA_of_ev c130_ ?_⟩
   conv => whnf
   refine Or.inl ?_
   conv => whnf
   refine ⟨fun _ => ?_, fun g => absurd (strq_t g) hne⟩
   conv => whnf
   refine ⟨y0, ?_⟩
   conv => whnf
   refine ⟨si_at hy0, ?_⟩
   conv => whnf
   refine ⟨fun g => by have := of_decide_eq_true g; omega, fun _ => ?_⟩
   conv => whnf
   refine cL0 hc ?_
   rintro _ _ ⟨rfl, rfl⟩
   conv => whnf
   exact Or.inr ⟨[], _, [], ⟨rfl, trivial, rfl⟩, rfl, rfl, rfl⟩
end Go.Proofs.YtokkphocaloelaaGreatDoor

end
section
namespace Go.Proofs.YtokkphocaloelaaGreatDoor
open Go Go.Vc
open Go.ChangeShapes Go.WideShapes Go.RowKit

theorem cellsU8 : Tryz.prog.cellsOf 5 = 1 := by kernel_rfl
theorem cellsU16 : Tryz.prog.cellsOf 42 = 1 := by kernel_rfl
theorem cellsU32 : Tryz.prog.cellsOf 22 = 1 := by kernel_rfl
theorem cellsAcc : Tryz.prog.cellsOf 219 = 2 := by kernel_rfl
theorem addr_g (g i : Nat) : (Addr.mk g 0 none).add i = ⟨g, i, none⟩ := by
 simp only [Addr.add, Nat.zero_add]
 split
 · rename_i c
   simp_all
 · rfl
theorem tab_of {P : Program} {W : World} {n : String} {g : Nat} {t e : TypeId} {k : IntKind} {l : List Nat} (h : Lib.VarReads P W n (.slice (Pinned.numbers k l) [])) (hg : P.globalNamed n = some g) (ht : (P.globals[g]?).map (·.type) = some t)
   (hu : P.underlying t = some (.slice e)) (he : P.underlying e = some (.int k)) (hc : P.cellsOf e = 1) : ∃ v, W.cell? (Addr.mk g 0 none) = some v ∧ v.oneCell' = true ∧ slAt W k v l := by
 obtain ⟨g0, t0, cs0, f0, p0, hg0, ht0, hv0, hd0⟩ := h
 obtain rfl := Option.some.inj (hg.symm.trans hg0)
 obtain rfl := Option.some.inj (ht.symm.trans ht0)
 obtain ⟨l0⟩ := cs0
 rcases open_ints hu he hc hd0 with ⟨_, hx⟩ | ⟨a, len, cap, zs, hcs, _, hlc, _, hz, hx, hcell, _⟩
 · cases hx
 · have hln : len ≤ zs.length := by rw [hz]; split <;> omega
   have e1 : (Pinned.numbers k l : List (DataW Unit)) = lits k (zs.take len) := by
     have := congrArg Prod.fst hx
     injection this
   have e2 : l.map (fun (n : Nat) => (n : Int)) = zs.take len := by
     have hinj : ∀ (a b : List Int), (lits k a : List (DataW Unit)) = lits k b → a = b := by
       intro a
       induction a with
       | nil =>
         intro b hb
         cases b with
         | nil => rfl
         | cons _ _ => cases hb
       | cons x r ih =>
         intro b hb
         cases b with
         | nil => cases hb
         | cons y s =>
           have h1 : (DataW.lit (.int k x) : DataW Unit) :: lits k r = DataW.lit (.int k y) :: lits k s := hb
           injection h1 with h2 h3
           injection h2 with h4
           injection h4 with _ h5
           rw [h5, ih s h3]
     apply hinj
     rw [← e1]
     unfold lits Pinned.numbers
     rw [List.map_map]
     rfl
   have el : l.length = len := by
     have := congrArg List.length e2
     rw [List.length_map, List.length_take] at this
     omega
   refine ⟨.slice (some a) len cap, ?_, rfl, a, cap, by rw [el], fun i x hi => ?_⟩
   · have := World.var?_cell hg hv0 0
     rw [this]
     have hcs : l0 = [.slice (some a) len cap] := hcs
     subst hcs
     rfl
   · have hil : i < len := by
       have := (List.getElem?_eq_some_iff.1 hi).1
       omega
     have e3 : zs[i]? = some (x : Int) := by
       have : (zs.take len)[i]? = some (x : Int) := by rw [← e2, List.getElem?_map, hi]; rfl
       rwa [List.getElem?_take, if_pos hil] at this
     rw [Nat.mul_one, hcell i (by omega), List.getD_eq_getElem?_getD, e3]
     rfl
theorem arr_of {P : Program} {W : World} {n : String} {g N : Nat} {t e : TypeId} {k : IntKind} {l : List Nat} (h : Lib.VarReads P W n (.agg (Pinned.numbers k l))) (hg : P.globalNamed n = some g) (ht : (P.globals[g]?).map (·.type) = some t)
   (hu : P.underlying t = some (.array N e)) (he : P.underlying e = some (.int k)) (hc : P.cellsOf e = 1) : ∀ (i x : Nat), l[i]? = some x → W.cell? ((Addr.mk g 0 none).add (i * 1)) = some (.int k (x : Int)) := by
 obtain ⟨g0, t0, cs0, f0, p0, hg0, ht0, hv0, hd0⟩ := h
 obtain rfl := Option.some.inj (hg.symm.trans hg0)
 obtain rfl := Option.some.inj (ht.symm.trans ht0)
 obtain ⟨xs, m, _, hx, hl, hlen, hel⟩ := DataW.trod_array hu hd0
 intro i x hi
 have e3 : Pinned.numbers k l = xs.map (·.1) := by
   have := (Prod.mk.inj hx).1
   exact DataW.agg.inj this
 have e4 : (xs.map (·.1))[i]? = some (.lit (.int k (x : Int))) := by
   rw [← e3]
   unfold Pinned.numbers
   rw [List.getElem?_map, hi]
   rfl
 rw [List.getElem?_map] at e4
 obtain ⟨y, hy, e5⟩ := Option.map_eq_some_iff.1 e4
 have hiN : i < N := by
   have := (List.getElem?_eq_some_iff.1 hy).1
   omega
 have h1 := hel i hiN
 rw [hc, Nat.mul_one, hy] at h1
 obtain ⟨z, e1, e2, _⟩ := DataW.trod_int he h1
 rw [e2] at e5
 have e6 : z = (x : Int) := by
   have := DataW.lit.inj e5
   injection this
 have hcl := World.var?_cell hg hv0 i
 rw [Nat.mul_one, addr_g, hcl, ← Array.getElem?_toList]
 have h2 : ((cs0.toList.drop i).take 1)[0]? = some (.int k z) := by rw [e1]; rfl
 rw [List.getElem?_take, if_pos (by omega), List.getElem?_drop, Nat.add_zero] at h2
 rw [h2, e6]
def accA (k : Nat) : Nat × Nat := match k with
 | 0 => (128, 191)
 | 1 => (160, 191)
 | 2 => (128, 159)
 | 3 => (144, 191)
 | 4 => (128, 143)
 | _ => (0, 0)
theorem accList : Rows.laid_unicode_utf8_acceptRanges (H := Unit) = .agg ((List.range 16).map fun k => .agg [.lit (.int .u8 ((accA k).1 : Int)), .lit (.int .u8 ((accA k).2 : Int))]) := by kernel_rfl
theorem gAcc : Tryz.prog.globalNamed "unicode/utf8.acceptRanges" = some 15 := by kernel_rfl
theorem tAcc : (Tryz.prog.globals[15]?).map (·.type) = some 220 := by kernel_rfl
theorem acc_of {W : World} (h : Lib.VarReads Tryz.prog W "unicode/utf8.acceptRanges" Rows.laid_unicode_utf8_acceptRanges) : ∀ k, k < 16 → W.cell? (((Addr.mk 15 0 none).add (k * 2)).add 0) = some (.int .u8 ((accA k).1 : Nat)) ∧ W.cell? (((Addr.mk 15 0 none).add (k * 2)).add 1) = some (.int .u8 ((accA k).2 : Nat)) := by
 obtain ⟨g0, t0, cs0, f0, p0, hg0, ht0, hv0, hd0⟩ := h
 obtain rfl := Option.some.inj (gAcc.symm.trans hg0)
 obtain rfl := Option.some.inj (tAcc.symm.trans ht0)
 rw [accList] at hd0
 obtain ⟨xs, m, _, hx, hl, hlen, hel⟩ := DataW.trod_array Tryz.underlying220 hd0
 intro k hk
 have e3 : ((List.range 16).map fun k => (DataW.agg [.lit (.int .u8 ((accA k).1 : Int)), .lit (.int .u8 ((accA k).2 : Int))] : DataW Unit)) = xs.map (·.1) := by
   have := (Prod.mk.inj hx).1
   exact DataW.agg.inj this
 have e4 : (xs.map (·.1))[k]? = some (.agg [.lit (.int .u8 ((accA k).1 : Int)), .lit (.int .u8 ((accA k).2 : Int))]) := by
   rw [← e3, List.getElem?_map, List.getElem?_range hk]
   rfl
 rw [List.getElem?_map] at e4
 obtain ⟨y, hy, e5⟩ := Option.map_eq_some_iff.1 e4
 have h1 := hel k hk
 rw [cellsAcc, hy] at h1
 obtain ⟨y0, y1, n, e6, hcl, h2, h3⟩ := trod_struct2 Tryz.underlying219 h1
 have h2 : DataW.trod (fun _ => ()) Tryz.prog W 0 (fun _ => true) false n 5 ((((cs0.toList.drop (k * 2)).take 2).drop 0).take (Tryz.prog.cellsOf 5)) = some y0 := h2
 have h3 : DataW.trod (fun _ => ()) Tryz.prog W 0 (fun _ => true) false n 5 ((((cs0.toList.drop (k * 2)).take 2).drop 1).take (Tryz.prog.cellsOf 5)) = some y1 := h3
 rw [cellsU8] at h2 h3
 obtain ⟨z0, a1, a2, _⟩ := DataW.trod_int Tryz.underlying5 h2
 obtain ⟨z1, b1, b2, _⟩ := DataW.trod_int Tryz.underlying5 h3
 rw [e6] at e5
 have e7 : [y0.1, y1.1] = [(DataW.lit (.int .u8 ((accA k).1 : Int)) : DataW Unit), .lit (.int .u8 ((accA k).2 : Int))] := DataW.agg.inj e5
 rw [a2, b2] at e7
 injection e7 with e8 e9
 injection e9 with e9 _
 have e8 : z0 = ((accA k).1 : Int) := by have := DataW.lit.inj e8; injection this
 have e9 : z1 = ((accA k).2 : Int) := by have := DataW.lit.inj e9; injection this
 have c0 : cs0.toList[k * 2]? = some (.int .u8 z0) := by
   have h : ((((cs0.toList.drop (k * 2)).take 2).drop 0).take 1)[0]? = some (.int .u8 z0) := by rw [a1]; rfl
   rw [List.getElem?_take, if_pos (by omega), List.getElem?_drop, List.getElem?_take, if_pos (by omega), List.getElem?_drop] at h
   exact h
 have c1 : cs0.toList[k * 2 + 1]? = some (.int .u8 z1) := by
   have h : ((((cs0.toList.drop (k * 2)).take 2).drop 1).take 1)[0]? = some (.int .u8 z1) := by rw [b1]; rfl
   rw [List.getElem?_take, if_pos (by omega), List.getElem?_drop, List.getElem?_take, if_pos (by omega), List.getElem?_drop] at h
   exact h
 refine ⟨?_, ?_⟩
 · rw [addr_g, show (Addr.mk 15 (k * 2) none).add 0 = ⟨15, k * 2, none⟩ by simp [Addr.add], World.var?_cell gAcc hv0 (k * 2), ← Array.getElem?_toList, c0, e8]
 · rw [addr_g, show (Addr.mk 15 (k * 2) none).add 1 = ⟨15, k * 2 + 1, none⟩ by simp [Addr.add], World.var?_cell gAcc hv0 (k * 2 + 1), ← Array.getElem?_toList, c1, e9]
def laidHd : List (String × DataW Unit) := ("math/bits.deBruijn32tab", Rows.laid_math_bits_deBruijn32tab) :: ("math/bits.deBruijn64tab", Rows.laid_math_bits_deBruijn64tab) :: ("internal/strconv.uint64pow10", Rows.laid_internal_strconv_uint64pow10) :: ("unicode/utf8.acceptRanges", Rows.laid_unicode_utf8_acceptRanges) ::
 laidErrs [("strconv.isGraphic", Rows.laid_strconv_isGraphic), ("strconv.isNotPrint16", Rows.laid_strconv_isNotPrint16), ("strconv.isNotPrint32", Rows.laid_strconv_isNotPrint32), ("strconv.isPrint16", Rows.laid_strconv_isPrint16), ("strconv.isPrint32", Rows.laid_strconv_isPrint32), ("unicode/utf8.first", Rows.laid_unicode_utf8_first)]
def PT : PrT := ⟨Pinned.isPrint16Z, Pinned.isNotPrint16Z, Pinned.isPrint32Z, Pinned.isNotPrint32Z⟩
def fstF (i : Nat) : Nat := Pinned.utf8FirstZ.getD i 0
theorem met_tabs {W : World} (h : laidMet Tryz.prog laidHd W) : PT.at W ∧ UtT W fstF accA := by
 have r16 := Lib.laidMet.reads h (n := "strconv.isPrint16") (d := Rows.laid_strconv_isPrint16) (by simp [laidHd, laidErrs])
 have n16 := Lib.laidMet.reads h (n := "strconv.isNotPrint16") (d := Rows.laid_strconv_isNotPrint16) (by simp [laidHd, laidErrs])
 have r32 := Lib.laidMet.reads h (n := "strconv.isPrint32") (d := Rows.laid_strconv_isPrint32) (by simp [laidHd, laidErrs])
 have n32 := Lib.laidMet.reads h (n := "strconv.isNotPrint32") (d := Rows.laid_strconv_isNotPrint32) (by simp [laidHd, laidErrs])
 have rf := Lib.laidMet.reads h (n := "unicode/utf8.first") (d := Rows.laid_unicode_utf8_first) (by simp [laidHd, laidErrs])
 have ra := Lib.laidMet.reads h (n := "unicode/utf8.acceptRanges") (d := Rows.laid_unicode_utf8_acceptRanges) (by simp [laidHd, laidErrs])
 have acc := acc_of ra
 have hlen : Pinned.utf8FirstZ.length = 256 := by decide +kernel
 have hall : ∀ i < 256, fstF i < 256 ∧ (128 ≤ i → (240 ≤ fstF i → fstF i = 241) ∧ (fstF i < 240 → 2 ≤ fstF i % 8)) := by decide +kernel
 refine ⟨⟨?_, ?_, ?_, ?_, ?_, ?_, ?_, ?_, ?_, ?_⟩, ⟨fun i hi => ?_, fun i hi => (hall i hi).1, fun k hk => (acc k hk).1, fun k hk => (acc k hk).2, fun i h1 h2 => (hall i h2).2 h1⟩⟩
 · exact tab_of r16 (by kernel_rfl) (by kernel_rfl) Tryz.underlying221 Tryz.underlying42 cellsU16
 · exact tab_of n16 (by kernel_rfl) (by kernel_rfl) Tryz.underlying221 Tryz.underlying42 cellsU16
 · exact tab_of r32 (by kernel_rfl) (by kernel_rfl) Tryz.underlying85 Tryz.underlying22 cellsU32
 · exact tab_of n32 (by kernel_rfl) (by kernel_rfl) Tryz.underlying221 Tryz.underlying42 cellsU16
 · decide +kernel
 · decide +kernel
 · decide +kernel
 · decide +kernel
 · decide +kernel
 · decide +kernel
 · refine arr_of rf (by kernel_rfl) (by kernel_rfl) Tryz.underlying217 Tryz.underlying5 cellsU8 i (fstF i) ?_
   unfold fstF
   rw [List.getD_eq_getElem?_getD, List.getElem?_eq_getElem (by rw [hlen]; exact hi)]
   rfl
theorem metHd {W : World} (h : laidMetH Tryz.prog laidHd W) : pows W ∧ (∃ v, Errs W 227 v) ∧ PT.at W ∧ UtT W fstF accA := by
 rw [MakeChecks.laidMetH_plain _ _ _ (by kernel_rfl)] at h
 have h3 := h.tail.tail
 exact ⟨pows_of h3, errs_of_laid h3.tail.tail, met_tabs h⟩
theorem doorHd (os : Os) (args : Array Value) : laidMetH Tryz.prog laidHd ((World.laidAll Tryz.prog os laidHd).forCall (fun _ _ => 0) ⟨#[], args, []⟩).memory := by
 rw [MakeChecks.laidMetH_plain _ _ _ (by kernel_rfl)]
 exact laidMet_laidAll _ (by kernel_rfl) (by kernel_rfl)
end Go.Proofs.YtokkphocaloelaaGreatDoor

end
section
namespace Go.Proofs.YtokkphocaloelaaGreatDoor
open Go Go.Vc Go.Deep
set_option maxRecDepth 100000

theorem wf_u32' {n : Int} (h : (Lit.int .u32 n).wf = true) : ∃ m : Nat, n = m ∧ m < 4294967296 := by
 simp only [Lit.wf, Bool.and_eq_true, decide_eq_true_eq] at h
 have h1 : 0 ≤ n := h.1
 have h2 : n ≤ 4294967295 := h.2
 exact ⟨n.toNat, by omega, by omega⟩
theorem wf_i64' {n : Int} (h : (Lit.int .i64 n).wf = true) : -9223372036854775808 ≤ n ∧ n < 9223372036854775808 := by
 simp only [Lit.wf, Bool.and_eq_true, decide_eq_true_eq] at h
 have h1 : -9223372036854775808 ≤ n := h.1
 have h2 : n ≤ 9223372036854775807 := h.2
 omega
theorem list10 {α : Type} {l : List α} (h : l.length = 10) : ∃ a b c d e f g i j k, l = [a, b, c, d, e, f, g, i, j, k] := by
 match l, h with
 | [a, b, c, d, e, f, g, i, j, k], _ => exact ⟨a, b, c, d, e, f, g, i, j, k, rfl⟩
theorem cl3 : Tryz.prog.cellsOf 3 = 1 := by kernel_rfl
theorem cl22 : Tryz.prog.cellsOf 22 = 1 := by kernel_rfl
theorem cl9 : Tryz.prog.cellsOf 9 = 1 := by kernel_rfl
theorem cl23 : Tryz.prog.cellsOf 23 = 1 := by kernel_rfl
theorem cl25 : Tryz.prog.cellsOf 25 = 10 := by kernel_rfl
section
variable {H : Type} {enc : TypeId × Value → H} {w : World} {base : Nat} {spare : Nat → Bool} {held : Bool}
theorem opened_head {n : Nat} {cs : List Value} {x : DataW H × List MemPlace} (h : DataW.trod enc Tryz.prog w base spare held n 25 cs = some x) :
   ∃ (hd : Hd) (ma : Option Addr) (mn mc : Nat), cs = [.int .i64 hd.ver, .int .i64 hd.ch, .int .i64 hd.map, .int .i64 hd.skip, .int .i64 hd.gain, .int .u32 hd.rate, .int .i64 hd.str, .int .i64 hd.cou, .string hd.mapping, .slice ma mn mc] ∧
     hd.rate < 4294967296 ∧ (∀ x ∈ [hd.ver, hd.ch, hd.map, hd.skip, hd.gain, hd.str, hd.cou], -9223372036854775808 ≤ x ∧ x < 9223372036854775808) ∧ hd.mapping.size ≤ maxLen := by
 obtain ⟨xs, m, rfl, rfl, hl, hlen, hf⟩ := DataW.trod_struct Tryz.underlying25 h
 rw [cl25] at hl
 obtain ⟨c0, c1, c2, c3, c4, c5, c6, c7, c8, c9, rfl⟩ := list10 hl
 obtain ⟨y0, y1, y2, y3, y4, y5, y6, y7, y8, y9, rfl⟩ := list10 (l := xs) hlen
 have h0 : DataW.trod enc Tryz.prog w base spare held m 3 (([c0, c1, c2, c3, c4, c5, c6, c7, c8, c9].drop 0).take (Tryz.prog.cellsOf 3)) = [y0, y1, y2, y3, y4, y5, y6, y7, y8, y9][0]? := hf 0 _ rfl
 have h1 : DataW.trod enc Tryz.prog w base spare held m 3 (([c0, c1, c2, c3, c4, c5, c6, c7, c8, c9].drop 1).take (Tryz.prog.cellsOf 3)) = [y0, y1, y2, y3, y4, y5, y6, y7, y8, y9][1]? := hf 1 _ rfl
 have h2 : DataW.trod enc Tryz.prog w base spare held m 3 (([c0, c1, c2, c3, c4, c5, c6, c7, c8, c9].drop 2).take (Tryz.prog.cellsOf 3)) = [y0, y1, y2, y3, y4, y5, y6, y7, y8, y9][2]? := hf 2 _ rfl
 have h3 : DataW.trod enc Tryz.prog w base spare held m 3 (([c0, c1, c2, c3, c4, c5, c6, c7, c8, c9].drop 3).take (Tryz.prog.cellsOf 3)) = [y0, y1, y2, y3, y4, y5, y6, y7, y8, y9][3]? := hf 3 _ rfl
 have h4 : DataW.trod enc Tryz.prog w base spare held m 3 (([c0, c1, c2, c3, c4, c5, c6, c7, c8, c9].drop 4).take (Tryz.prog.cellsOf 3)) = [y0, y1, y2, y3, y4, y5, y6, y7, y8, y9][4]? := hf 4 _ rfl
 have h5 : DataW.trod enc Tryz.prog w base spare held m 22 (([c0, c1, c2, c3, c4, c5, c6, c7, c8, c9].drop 5).take (Tryz.prog.cellsOf 22)) = [y0, y1, y2, y3, y4, y5, y6, y7, y8, y9][5]? := hf 5 _ rfl
 have h6 : DataW.trod enc Tryz.prog w base spare held m 3 (([c0, c1, c2, c3, c4, c5, c6, c7, c8, c9].drop 6).take (Tryz.prog.cellsOf 3)) = [y0, y1, y2, y3, y4, y5, y6, y7, y8, y9][6]? := hf 6 _ rfl
 have h7 : DataW.trod enc Tryz.prog w base spare held m 3 (([c0, c1, c2, c3, c4, c5, c6, c7, c8, c9].drop 7).take (Tryz.prog.cellsOf 3)) = [y0, y1, y2, y3, y4, y5, y6, y7, y8, y9][7]? := hf 7 _ rfl
 have h8 : DataW.trod enc Tryz.prog w base spare held m 9 (([c0, c1, c2, c3, c4, c5, c6, c7, c8, c9].drop 8).take (Tryz.prog.cellsOf 9)) = [y0, y1, y2, y3, y4, y5, y6, y7, y8, y9][8]? := hf 8 _ rfl
 have h9 : DataW.trod enc Tryz.prog w base spare held m 23 (([c0, c1, c2, c3, c4, c5, c6, c7, c8, c9].drop 9).take (Tryz.prog.cellsOf 23)) = [y0, y1, y2, y3, y4, y5, y6, y7, y8, y9][9]? := hf 9 _ rfl
 rw [cl3] at h0 h1 h2 h3 h4 h6 h7
 rw [cl22] at h5
 rw [cl9] at h8
 rw [cl23] at h9
 obtain ⟨n0, q0, _, w0⟩ := DataW.trod_int Tryz.underlying3 h0
 obtain ⟨n1, q1, _, w1⟩ := DataW.trod_int Tryz.underlying3 h1
 obtain ⟨n2, q2, _, w2⟩ := DataW.trod_int Tryz.underlying3 h2
 obtain ⟨n3, q3, _, w3⟩ := DataW.trod_int Tryz.underlying3 h3
 obtain ⟨n4, q4, _, w4⟩ := DataW.trod_int Tryz.underlying3 h4
 obtain ⟨n5, q5, _, w5⟩ := DataW.trod_int Tryz.underlying22 h5
 obtain ⟨n6, q6, _, w6⟩ := DataW.trod_int Tryz.underlying3 h6
 obtain ⟨n7, q7, _, w7⟩ := DataW.trod_int Tryz.underlying3 h7
 obtain ⟨s8, q8, _, z8⟩ := DataW.trod_string Tryz.underlying9 h8
 obtain ⟨m5, rfl, l5⟩ := wf_u32' w5
 obtain rfl : c0 = _ := (List.cons.inj q0).1
 obtain rfl : c1 = _ := (List.cons.inj q1).1
 obtain rfl : c2 = _ := (List.cons.inj q2).1
 obtain rfl : c3 = _ := (List.cons.inj q3).1
 obtain rfl : c4 = _ := (List.cons.inj q4).1
 obtain rfl : c5 = _ := (List.cons.inj q5).1
 obtain rfl : c6 = _ := (List.cons.inj q6).1
 obtain rfl : c7 = _ := (List.cons.inj q7).1
 obtain rfl : c8 = _ := (List.cons.inj q8).1
 have hb : ∀ x ∈ [n0, n1, n2, n3, n4, n6, n7], -9223372036854775808 ≤ x ∧ x < 9223372036854775808 := by
   intro x hx
   simp only [List.mem_cons, List.not_mem_nil, or_false] at hx
   rcases hx with rfl | rfl | rfl | rfl | rfl | rfl | rfl
   · exact wf_i64' w0
   · exact wf_i64' w1
   · exact wf_i64' w2
   · exact wf_i64' w3
   · exact wf_i64' w4
   · exact wf_i64' w6
   · exact wf_i64' w7
 rcases open_slice Tryz.underlying23 h9 with ⟨hcs, _⟩ | ⟨a, len, cap, _, _, _, _, hcs, _⟩
 · obtain rfl : c9 = _ := (List.cons.inj hcs).1
   exact ⟨⟨n0, n1, n2, n3, n4, m5, n6, n7, s8⟩, none, 0, 0, rfl, l5, hb, z8⟩
 · obtain rfl : c9 = _ := (List.cons.inj hcs).1
   exact ⟨⟨n0, n1, n2, n3, n4, m5, n6, n7, s8⟩, some a, len, cap, rfl, l5, hb, z8⟩
end
end Go.Proofs.YtokkphocaloelaaGreatDoor

end
section
namespace Go.Proofs.YtokkphocaloelaaGreatDoor
open Go Go.Vc
set_option maxRecDepth 100000
set_option maxHeartbeats 8000000

theorem encAll_byt : ∀ (ps : List Pg), (∀ p ∈ ps, p.good) → Byt (encAll ps)
 | [], _ => fun _x hx => (List.not_mem_nil hx).elim
 | p :: r, h => (pgEnc_byt (h p (List.mem_cons_self ..))).append (encAll_byt r fun q hq => h q (List.mem_cons_of_mem _ hq))
theorem pageI_enc {p : Pg} (hg : p.good) {R : List Int} (hR : Byt R) : ∃ g, pageI (pgEnc p ++ R) = some (g, R) ∧ g.segs = p.segs ∧ pgEl g = lcdOf p ∧ Reads (strOf (pgEnc p ++ R)) p (pgEnc p).length g := by
 have hb : Byt (pgEnc p ++ R) := (pgEnc_byt hg).append hR
 have hbs := bytes_str hb
 obtain ⟨g, h1, h2⟩ := pageP_I (pageP_enc hg (b := strOf (pgEnc p ++ R)) (rest := R) hbs)
 rw [hbs, List.drop_left' rfl] at h1
 have hs : g.segs = p.segs := by
   have hpar : p.pts = join g.segs [] := h2.par
   unfold Pg.segs
   rw [hpar]
   by_cases he : g.segs = []
   · rw [he]
     rfl
   · rw [lace_join g.segs [] 0 p.more he h2.len rfl h2.las]
     rfl
 refine ⟨g, h1, hs, ?_, h2⟩
 unfold pgEl lcdOf
 rw [hs, h2.gra]
theorem full_len : ∀ (n : Nat) (x : List Int), (full n x).length = n
 | 0, _ => rfl
 | n + 1, x => by show (full n _).length + 1 = n + 1; rw [full_len n]
theorem one_lace {x : List Int} (h : x.length / 255 < 256) : OneP (lace false [x]) (x.length / 255) := by
 have e : lace false [x] = lc x ++ [lr x] := by
   show lc x ++ (if ([] : List (List Int)) = [] ∧ false = true then [] else [lr x]) ++ [] = _
   rw [if_neg (by simp), List.append_nil]
 have hl : (lc x).length = x.length / 255 := full_len _ _
 rw [e]
 refine ⟨by rw [List.length_append, hl]; rfl, h, fun i y hy => ?_⟩
 rcases Nat.lt_or_ge i (x.length / 255) with hi | hi
 · rw [List.getElem?_append_left (by omega), lc_get hi] at hy
   cases hy
   rw [List.length_take, List.length_drop]
   omega
 · rw [List.getElem?_append_right (by omega)] at hy
   have h0 : i - (lc x).length = 0 := by
     rcases Nat.eq_zero_or_pos (i - (lc x).length) with h0 | h0
     · exact h0
     · rw [List.getElem?_eq_none (by simp; omega)] at hy
       cases hy
   rw [h0] at hy
   cases hy
   have := lr_len x
   omega
theorem Hd.text_list {h : Hd} (h1 : h.text.2 = 1) (_hr : h.rate < 4294967296) : ∃ Y : List Int, bytesOf h.text.1 = h.fix ++ Y ∧ ((h.map = 0 ∧ Y = []) ∨ ((h.map = 1 ∨ h.map = 255) ∧ Y.length = 2 + h.ch.toNat ∧ Y = [h.str, h.cou] ++ bytesOf h.mapping)) ∧ Byt h.fix ∧ 1 ≤ h.ch ∧ h.ch ≤ 255 ∧ 0 ≤ h.map ∧ h.map ≤ 255 := by
 unfold Hd.text at h1 ⊢
 by_cases c1 : h.bad
 · rw [if_pos c1] at h1
   exact absurd h1 (by decide)
 rw [if_neg c1] at h1 ⊢
 unfold Hd.bad at c1
 have hfb : Byt h.fix := by
   unfold Hd.fix
   refine Byt.append (Byt.append (Byt.append (Byt.append (Byt.append ?_ ?_) (byt_leL _ _)) (byt_leL _ _)) (byt_leL _ _)) ?_
   · unfold opusHead
     intro x hx
     simp at hx
     omega
   · intro x hx
     simp at hx
     omega
   · intro x hx
     simp at hx
     omega
 by_cases c2 : h.map = 0
 · rw [if_pos c2]
   exact ⟨[], by rw [List.append_nil]; exact bytes_str hfb, .inl ⟨c2, rfl⟩, hfb, by omega, by omega, by omega, by omega⟩
 rw [if_neg c2] at h1 ⊢
 by_cases c3 : h.bad2
 · rw [if_pos c3] at h1
   exact absurd h1 (by decide)
 rw [if_neg c3]
 unfold Hd.bad2 at c3
 have hsc : Byt [h.str, h.cou] := by
   intro x hx
   simp at hx
   omega
 refine ⟨[h.str, h.cou] ++ bytesOf h.mapping, ?_, .inr ⟨by omega, ?_, rfl⟩, hfb, by omega, by omega, by omega, by omega⟩
 · show bytesOf (strOf (h.fix ++ [h.str, h.cou]) ++ h.mapping) = _
   rw [bytes_add, bytes_str (hfb.append hsc), List.append_assoc]
 · rw [List.length_append, bytesOf_len]
   simp only [List.length_cons, List.length_nil]
   omega
theorem Hd.fix_len (h : Hd) : h.fix.length = 19 := by
 unfold Hd.fix opusHead
 simp only [List.length_append, leL_len, List.length_cons, List.length_nil]
theorem bt_app {A B : List Int} {i : Nat} (h : i < A.length) : bt (A ++ B) i = bt A i := by
 unfold bt
 rw [List.getD_eq_getElem?_getD, List.getD_eq_getElem?_getD, List.getElem?_append_left h]
theorem bt_r {A B : List Int} {i : Nat} : bt (A ++ B) (A.length + i) = bt B i := by
 unfold bt
 rw [List.getD_eq_getElem?_getD, List.getD_eq_getElem?_getD, List.getElem?_append_right (by omega), Nat.add_sub_cancel_left]
theorem Hd.fix18 (h : Hd) : bt h.fix 18 = h.map.toNat := by
 have e : (opusHead ++ [h.ver, h.ch] ++ leL h.skip.toNat 2 ++ leL h.rate 4 ++ leL (h.gain % 65536).toNat 2).length = 18 := by
   unfold opusHead
   simp only [List.length_append, leL_len, List.length_cons, List.length_nil]
 have := bt_r (A := opusHead ++ [h.ver, h.ch] ++ leL h.skip.toNat 2 ++ leL h.rate 4 ++ leL (h.gain % 65536).toNat 2) (B := [h.map]) (i := 0)
 rw [e] at this
 exact this
theorem Hd.fix9 (h : Hd) : bt h.fix 9 = h.ch.toNat := by
 unfold Hd.fix opusHead
 rfl
theorem Hd.fix8 (h : Hd) : h.fix.take 8 = opusHead := by
 unfold Hd.fix opusHead
 rfl
theorem Hd.okX {h : Hd} (h1 : h.text.2 = 1) (hr : h.rate < 4294967296) : okX (bytesOf h.text.1) ∧ (bt (bytesOf h.text.1) 18 = 0 ∨ bt (bytesOf h.text.1) 18 = 1 ∨ bt (bytesOf h.text.1) 18 = 255) := by
 obtain ⟨Y, e, hY, hfb, c1, c2, c3, c4⟩ := Hd.text_list h1 hr
 have hl := h.fix_len
 have e18 : bt (bytesOf h.text.1) 18 = h.map.toNat := by rw [e, bt_app (by omega), h.fix18]
 have e9 : bt (bytesOf h.text.1) 9 = h.ch.toNat := by rw [e, bt_app (by omega), h.fix9]
 refine ⟨⟨by rw [e, List.length_append]; omega, by rw [e, List.take_append_of_le_length (by omega), h.fix8], ?_⟩, ?_⟩
 · unfold okM
   rw [e18, e9, e, List.length_append]
   rcases hY with ⟨a, rfl⟩ | ⟨a, b, _⟩
   · left
     simp only [List.length_nil]
     omega
   · right
     omega
 · rw [e18]
   rcases hY with ⟨a, rfl⟩ | ⟨a, b, _⟩ <;> omega
theorem hdPg_good {s : ByteArray} (h : s.size ≤ 60000) : (hdPg s).good := (ok_one (p := hdPg s) (s := s) rfl rfl h ⟨show (0 : Int) ≤ 2 by decide, show (2 : Int) ≤ 7 by decide⟩).good (show 1 < 4294967296 by decide) (show 0 < 4294967296 by decide) (show 0 < 18446744073709551616 by decide)
theorem tgPg_good {s : ByteArray} (h : s.size ≤ 60000) : (tgPg s).good := (ok_one (p := tgPg s) (s := s) rfl rfl h ⟨show (0 : Int) ≤ 0 by decide, show (0 : Int) ≤ 7 by decide⟩).good (show 1 < 4294967296 by decide) (show 1 < 4294967296 by decide) (show 0 < 18446744073709551616 by decide)
theorem opens_hd {X : ByteArray} (hX : X.size ≤ 60000) (hm : 19 ≤ (bytesOf X).length → (bytesOf X).take 8 = opusHead → bt (bytesOf X) 18 = 0 ∨ bt (bytesOf X) 18 = 1 ∨ bt (bytesOf X) 18 = 255) {R : List Int} (hR : Byt R) :
   ∃ g, pageI (pgEnc (hdPg X) ++ R) = some (g, R) ∧ g.segs.flatten = bytesOf X ∧ ∃ k, Opens (pgEnc (hdPg X) ++ R) g R k := by
 have hg := hdPg_good hX
 obtain ⟨g, h1, h2, _, h4⟩ := pageI_enc hg hR
 have hsg : (hdPg X).segs = lace false [bytesOf X] := rfl
 have hfl : g.segs.flatten = bytesOf X := by
   rw [h2, segs_flat hg]
   exact List.append_nil _
 have hb : Byt (pgEnc (hdPg X) ++ R) := (pgEnc_byt hg).append hR
 have hl := pgEnc_len hg
 have hXl := bytesOf_len X
 refine ⟨g, h1, hfl, (bytesOf X).length / 255, h1, h4.siz, ?_, ?_, ?_, ?_, ?_, ?_, ?_, ?_⟩
 · rw [h2, hsg]
   exact one_lace (by omega)
 · rw [h4.hdr, bytes_str hb]
   exact hb.take _
 · rw [h4.hdr, bytes_str hb, List.length_take, List.length_append]
   omega
 · have := congrArg (List.take 4) h4.sig
   rw [List.take_take] at this
   exact this
 · have := h4.fla
   have e : (hdPg X).flags = 2 := rfl
   omega
 · rw [hfl]
   exact byt_bytes X
 · rw [hfl]
   omega
 · rw [hfl]
   exact hm
end Go.Proofs.YtokkphocaloelaaGreatDoor

end
section
namespace Go.Proofs.YtokkphocaloelaaGreatDoor
open Go Go.Vc
set_option maxRecDepth 100000
set_option maxHeartbeats 8000000

def hdX (X : List Int) : Hd := ⟨bt X 8, bt X 9, bt X 18, le ((X.drop 10).take 2), le ((X.drop 16).take 2), le ((X.drop 12).take 4), if bt X 18 = 0 then 0 else bt X 19, if bt X 18 = 0 then 0 else bt X 20, if bt X 18 = 0 then ByteArray.mk #[] else strOf (X.drop 21)⟩
theorem Hd.ext' {a b : Hd} (h1 : a.ver = b.ver) (h2 : a.ch = b.ch) (h3 : a.map = b.map) (h4 : a.skip = b.skip) (h5 : a.gain = b.gain) (h6 : a.rate = b.rate) (h7 : a.str = b.str) (h8 : a.cou = b.cou) (h9 : a.mapping = b.mapping) : a = b := by
 cases a
 cases b
 simp only at h1 h2 h3 h4 h5 h6 h7 h8 h9
 subst h1 h2 h3 h4 h5 h6 h7 h8 h9
 rfl
theorem hdX_text {h : Hd} (h1 : h.text.2 = 1) (hr : h.rate < 4294967296) (hg : 0 ≤ h.gain) : hdX (bytesOf h.text.1) = h := by
 have hl := h.fix_len
 obtain ⟨Y, e, hY, hfb, _⟩ := Hd.text_list h1 hr
 rw [e]
 have c1 : ¬ h.bad := by
   intro hb
   unfold Hd.text at h1
   rw [if_pos hb] at h1
   exact absurd h1 (by decide)
 have e18 : bt (h.fix ++ Y) 18 = h.map.toNat := by rw [bt_app (by omega), h.fix18]
 have e9 : bt (h.fix ++ Y) 9 = h.ch.toNat := by rw [bt_app (by omega), h.fix9]
 have e8 : bt (h.fix ++ Y) 8 = h.ver.toNat := by rw [bt_app (by omega)]; unfold Hd.fix opusHead; rfl
 have d10 : ((h.fix ++ Y).drop 10).take 2 = leL h.skip.toNat 2 := by unfold Hd.fix opusHead leL; rfl
 have d12 : ((h.fix ++ Y).drop 12).take 4 = leL h.rate 4 := by unfold Hd.fix opusHead leL; rfl
 have d16 : ((h.fix ++ Y).drop 16).take 2 = leL (h.gain % 65536).toNat 2 := by unfold Hd.fix opusHead leL; rfl
 have d19 : (h.fix ++ Y).drop 19 = Y := List.drop_left' hl
 unfold Hd.bad at c1
 unfold hdX
 rw [e18, e9, e8, d10, d12, d16, le_leL 2 _ (by omega), le_leL 4 _ hr, le_leL 2 _ (by omega)]
 rcases hY with ⟨hm, rfl⟩ | ⟨hm, hyl, hy⟩
 · have ht : h.str = 0 ∧ h.cou = 0 ∧ h.mapping.size = 0 ∧ h.ch ≤ 2 := by
     unfold Hd.text at h1
     rw [if_neg (show ¬ h.bad from c1), if_pos hm] at h1
     by_cases hc : h.str = 0 ∧ h.cou = 0 ∧ h.mapping.size = 0 ∧ h.ch ≤ 2
     · exact hc
     · simp only [if_neg hc] at h1
       exact absurd h1 (by decide)
   have hm0 : h.map.toNat = 0 := by omega
   refine Hd.ext' ?_ ?_ ?_ ?_ ?_ rfl ?_ ?_ ?_
   · show ((h.ver.toNat : Nat) : Int) = h.ver; omega
   · show ((h.ch.toNat : Nat) : Int) = h.ch; omega
   · show ((h.map.toNat : Nat) : Int) = h.map; omega
   · show ((h.skip.toNat : Nat) : Int) = h.skip; omega
   · show (((h.gain % 65536).toNat : Nat) : Int) = h.gain; omega
   · show (if h.map.toNat = 0 then (0 : Int) else _) = h.str
     rw [if_pos hm0]
     omega
   · show (if h.map.toNat = 0 then (0 : Int) else _) = h.cou
     rw [if_pos hm0]
     omega
   · show (if h.map.toNat = 0 then ByteArray.mk #[] else _) = h.mapping
     rw [if_pos hm0]
     exact (ByteArray.ext (Array.eq_empty_of_size_eq_zero ht.2.2.1)).symm
 · have hm0 : ¬ h.map.toNat = 0 := by omega
   have c3 : ¬ h.bad2 := by
     intro hb
     unfold Hd.text at h1
     rw [if_neg (show ¬ h.bad from c1), if_neg (by omega), if_pos hb] at h1
     exact absurd h1 (by decide)
   unfold Hd.bad2 at c3
   have e19 : bt (h.fix ++ Y) 19 = h.str.toNat := by
     have := bt_r (A := h.fix) (B := Y) (i := 0)
     rw [hl] at this
     rw [this, hy]
     rfl
   have e20 : bt (h.fix ++ Y) 20 = h.cou.toNat := by
     have := bt_r (A := h.fix) (B := Y) (i := 1)
     rw [hl] at this
     rw [this, hy]
     rfl
   have e21 : (h.fix ++ Y).drop 21 = bytesOf h.mapping := by
     rw [show 21 = 19 + 2 from rfl, ← List.drop_drop, d19, hy]
     rfl
   rw [e19, e20, e21]
   refine Hd.ext' ?_ ?_ ?_ ?_ ?_ rfl ?_ ?_ ?_
   · show ((h.ver.toNat : Nat) : Int) = h.ver; omega
   · show ((h.ch.toNat : Nat) : Int) = h.ch; omega
   · show ((h.map.toNat : Nat) : Int) = h.map; omega
   · show ((h.skip.toNat : Nat) : Int) = h.skip; omega
   · show (((h.gain % 65536).toNat : Nat) : Int) = h.gain; omega
   · show (if h.map.toNat = 0 then (0 : Int) else ((h.str.toNat : Nat) : Int)) = h.str
     rw [if_neg hm0]
     omega
   · show (if h.map.toNat = 0 then (0 : Int) else ((h.cou.toNat : Nat) : Int)) = h.cou
     rw [if_neg hm0]
     omega
   · show (if h.map.toNat = 0 then ByteArray.mk #[] else strOf (bytesOf h.mapping)) = h.mapping
     rw [if_neg hm0, str_bytes]
theorem hdX_hdB {b : ByteArray} (h : okX (bytesOf b)) : hdX (bytesOf b) = hdB b := by
 have a12 : ((bytesOf b).take 12).drop 10 = ((bytesOf b).drop 10).take 2 := by rw [List.drop_take]
 have a18 : ((bytesOf b).take 18).drop 16 = ((bytesOf b).drop 16).take 2 := by rw [List.drop_take]
 have a16 : ((bytesOf b).take 16).drop 12 = ((bytesOf b).drop 12).take 4 := by rw [List.drop_take]
 unfold hdX hdB hdA
 rw [a12, a18, a16]
 by_cases h0 : bt (bytesOf b) 18 = 0
 · simp only [if_pos h0]
 · simp only [if_neg h0]
   have hl : (bytesOf b).length = 21 + bt (bytesOf b) 9 := by
     rcases h.2.2 with ⟨h1, _⟩ | ⟨_, h1⟩
     · exact absurd h1 h0
     · exact h1
   have e : b.extract 21 (21 + bt (bytesOf b) 9) = strOf ((bytesOf b).drop 21) := by
     rw [← str_bytes (b.extract 21 (21 + bt (bytesOf b) 9)), bytes_ext, ← hl, List.take_length]
   rw [e]
end Go.Proofs.YtokkphocaloelaaGreatDoor

end
section
namespace Go.Proofs.YtokkphocaloelaaGreatDoor
open Go Go.Vc
set_option maxRecDepth 100000
set_option maxHeartbeats 8000000

def i16B : Blk := .vec true 106 (encI .i16) [] 1 ([] : List Int)
theorem chanMapF (w0 : World) : CallsA Tryz.prog w0 41 [.c (.ptr 0 0)] [rdB 1 2 3 4 false, .dead, .dead, .dead, .dead] fun r H => r = .o (.a [.val (.int .u8 ((0 : Nat) : Int)), .val (.int .u8 ((0 : Nat) : Int)), .val (.slice none 0 0), .val (.slice none 0 0)]) ∧ H = [rdB 1 2 3 4 false, .dead, .dead, .dead, .dead] := by
 refine callsA_of_ev c41_ ?_
 conv => whnf
 refine Or.inl ?_
 conv => whnf
 refine ⟨fun _ => ?_, fun g => zT g⟩
 conv => whnf
 exact Or.inr ⟨[0, 1, 2, 3, 4], _, [rdB 1 2 3 4 false, .dead, .dead, .dead, .dead], ⟨rfl, ⟨rfl, rfl, l1 _, l2 _, l3 _, l4 _, trivial⟩, rfl⟩, rfl, rfl, rfl⟩
theorem chanMapT (w0 : World) {X : List Int} (hX : 21 ≤ X.length ∧ X.length ≤ 65536) : CallsA Tryz.prog w0 41 [.c (.ptr 0 0)] [rdB 3 4 5 1 true, mpB 2 X, rowB (X.drop 21), .dead, .dead, .dead] fun r H =>
   r = .o (.a [u8 X 19, u8 X 20, .vec 6 (X.drop 21).length, .vec 7 0]) ∧ H = [rdB 3 4 5 1 true, mpB 2 X, rowB (X.drop 21), .dead, .dead, .dead, rowB (X.drop 21), i16B] := by
 refine callsA_of_ev c41_ ?_
 conv => whnf
 refine Or.inl ?_
 conv => whnf
 refine ⟨fun g => zF g, fun _ => ?_⟩
 conv => whnf
 refine ⟨by decide, Int, encI .u8, [], X.drop 21, fun _ => rfl, ⟨rfl, by rw [List.length_drop]; exact Nat.le_refl _, by rw [List.length_drop], by rw [List.take_of_length_le (by rw [List.length_drop]; exact Nat.le_refl _)]⟩, by rw [List.length_drop]; omega, by rw [List.length_drop]; omega, ?_⟩
 conv => whnf
 refine ⟨⟨⟨rfl, rfl⟩, ⟨rfl, rfl⟩, ⟨rfl, rfl⟩, ⟨rfl, rfl⟩, ⟨rfl, rfl⟩, ⟨rfl, rfl⟩, trivial⟩, ?_⟩
 conv => whnf
 refine ⟨by decide, Int, encI .i16, [], [], fun _ => rfl, rfl, by decide, by decide, ?_⟩
 conv => whnf
 refine ⟨⟨⟨rfl, rfl⟩, ⟨rfl, rfl⟩, ⟨rfl, rfl⟩, ⟨rfl, rfl⟩, trivial⟩, ?_⟩
 conv => whnf
 refine ⟨trivial, ?_⟩
 conv => whnf
 exact Or.inr ⟨[0, 1, 2, 3, 4, 5, 7, 8], _, [rdB 3 4 5 1 true, mpB 2 X, rowB (X.drop 21), .dead, .dead, .dead, rowB (X.drop 21), i16B], ⟨rfl, ⟨rfl, rfl, rfl, rfl, rfl, rfl, l3 _, l4 _, l5 _, rfl, rfl, rfl, rfl, trivial⟩, rfl⟩, rfl, rfl, rfl⟩
theorem le2_lt {X : List Int} (h : Byt X) (i : Nat) : le ((X.drop i).take 2) < 9223372036854775808 := by
 have h1 := le_lt (l := (X.drop i).take 2) fun x hx => h x (List.mem_of_mem_drop (List.mem_of_mem_take hx))
 have h2 : ((X.drop i).take 2).length ≤ 2 := by rw [List.length_take]; omega
 have h3 : 256 ^ ((X.drop i).take 2).length ≤ 256 ^ 2 := Nat.pow_le_pow_right (by decide) h2
 omega
theorem iOggHeadW {w0 : World} {t : TypeId} {v : Nat → Value} (he : Errs w0 t v) {b : ByteArray} (hs : b.size ≤ 1099511627776)
   (ho : ∀ g rest, pageI (bytesOf b) = some (g, rest) → ∃ k, Opens (bytesOf b) g rest k) {g0 : PgI} {L0 : List Int} (hp : pageI (bytesOf b) = some (g0, L0)) :
   CallsA Tryz.prog w0 19 [.c (.val (.string b))] [] fun r H => H = [] ∧ ((okX g0.segs.flatten ∧ r = .t [.a ((hdX g0.segs.flatten).cells (.slice none 0 0)), .c (.val (.int .i64 ((0 : Nat) : Int)))]) ∨
     (¬ okX g0.segs.flatten ∧ r = .t [.a (hd0.cells (.slice none 0 0)), .c (.val (.int .i64 ((1 : Nat) : Int)))])) := by
 have hLb : Byt (bytesOf b) := byt_bytes b
 have hop := iOpenW he hs ho
 obtain ⟨_, hopn⟩ := ho g0 L0 hp
 rw [hp] at hop
 refine callsA_of_evD c19_ ?_
 conv => whnf
 refine CallsA.liftE (H0 := []) [] rfl trivial rfl hop ?_
 rintro _ _ (⟨h1, k, hk, rfl, rfl⟩ | ⟨h1, s0, o, c, hs0, hr0, rfl, rfl⟩)
 · refine ⟨.t [.c (.val (.pointer none)), .c (.val (.pointer none)), .c (.val (.iface t (v k)))], [.cells 50 (hd0.cells (.slice none 0 0)), .cells 3 [.val (.int .i64 ((0 : Nat) : Int))]], rfl, ⟨rfl, rfl, trivial⟩, ?_⟩
   conv => whnf
   refine Or.inl ?_
   conv => whnf
   refine ⟨fun _ => ?_, fun g => zT g⟩
   conv => whnf
   exact Or.inr ⟨[], .t [.a (hd0.cells (.slice none 0 0)), .c (.val (.int .i64 ((1 : Nat) : Int)))], [], ⟨rfl, trivial, rfl⟩, rfl, rfl, .inr ⟨h1, rfl⟩⟩
 · have hbX := hopn.bX
   have hlX := hopn.lX
   have hm := hopn.map h1.1 h1.2.1
   have hokM := h1.2.2
   dsimp only
   have w8 : IntKind.i64.wrap ((bt g0.segs.flatten 8 : Nat) : Int) = ((bt g0.segs.flatten 8 : Nat) : Int) := nwrapi (Nat.lt_trans (bt_lt hbX 8) (by decide))
   have w9 : IntKind.i64.wrap ((bt g0.segs.flatten 9 : Nat) : Int) = ((bt g0.segs.flatten 9 : Nat) : Int) := nwrapi (Nat.lt_trans (bt_lt hbX 9) (by decide))
   have w18 : IntKind.i64.wrap ((bt g0.segs.flatten 18 : Nat) : Int) = ((bt g0.segs.flatten 18 : Nat) : Int) := nwrapi (Nat.lt_trans (bt_lt hbX 18) (by decide))
   have w19 : IntKind.i64.wrap ((bt g0.segs.flatten 19 : Nat) : Int) = ((bt g0.segs.flatten 19 : Nat) : Int) := nwrapi (Nat.lt_trans (bt_lt hbX 19) (by decide))
   have w20 : IntKind.i64.wrap ((bt g0.segs.flatten 20 : Nat) : Int) = ((bt g0.segs.flatten 20 : Nat) : Int) := nwrapi (Nat.lt_trans (bt_lt hbX 20) (by decide))
   have w10 : IntKind.i64.wrap ((le ((g0.segs.flatten.drop 10).take 2) : Nat) : Int) = ((le ((g0.segs.flatten.drop 10).take 2) : Nat) : Int) := nwrapi (le2_lt hbX 10)
   have w16 : IntKind.i64.wrap ((le ((g0.segs.flatten.drop 16).take 2) : Nat) : Int) = ((le ((g0.segs.flatten.drop 16).take 2) : Nat) : Int) := nwrapi (le2_lt hbX 16)
   generalize bytesOf b = L at hs0 hr0 ⊢
   generalize g0.segs.flatten = X at h1 hbX hlX hm hokM w8 w9 w18 w19 w20 w10 w16 ⊢
   unfold opH
   by_cases h18 : bt X 18 = 0
   · simp only [if_pos h18]
     refine ⟨.t [.c (.ptr 2 0), .c (.ptr 10 0), .c (.val .nilIface)], [.cells 50 (hd0.cells (.slice none 0 0)), .cells 3 [.val (.int .i64 ((0 : Nat) : Int))], rdB 3 5 6 7 false, srcB 4 L s0, datB L, tabB tabL, psB 8 9 (.sli o 0 c) none false (mkLi g0.hdr 0) (mkHl g0.hdr false), .dead, .dead, .dead, ohB X, .dead], rfl, ⟨rfl, rfl, rfl, srcB_ren (by rfl) _, rfl, rfl, rfl, rfl, rfl, rfl, rfl, rfl, trivial⟩, ?_⟩
     conv => whnf
     refine Or.inl ?_
     conv => whnf
     refine ⟨fun g => zF g, fun _ => ?_⟩
     conv => whnf
     refine CallsA.liftE (H0 := [rdB 1 2 3 4 false, .dead, .dead, .dead, .dead]) [2, 3, 5, 6, 7] rfl ⟨rfl, rfl, l3 _, l5 _, l6 _, l7 _, trivial⟩ rfl (chanMapF w0) ?_
     rintro _ _ ⟨rfl, rfl⟩
     refine ⟨.o (.a [.val (.int .u8 ((0 : Nat) : Int)), .val (.int .u8 ((0 : Nat) : Int)), .val (.slice none 0 0), .val (.slice none 0 0)]), [.cells 50 (hd0.cells (.slice none 0 0)), .cells 3 [.val (.int .i64 ((0 : Nat) : Int))], rdB 3 5 6 7 false, .dead, datB L, .dead, .dead, .dead, .dead, .dead, ohB X, .dead], rfl, ⟨rfl, rfl, rfl, rfl, rfl, rfl, rfl, rfl, rfl, rfl, rfl, rfl, trivial⟩, ?_⟩
     conv => whnf
     refine ⟨trivial, [], rfl, ?_⟩
     conv => whnf
     refine ⟨trivial, ?_⟩
     conv => whnf
     have hc : (hdX X).cells (.slice none 0 0) = [.val (.int .i64 ((bt X 8 : Nat) : Int)), .val (.int .i64 ((bt X 9 : Nat) : Int)), .val (.int .i64 ((bt X 18 : Nat) : Int)), .val (.int .i64 ((le ((X.drop 10).take 2) : Nat) : Int)), .val (.int .i64 ((le ((X.drop 16).take 2) : Nat) : Int)), .val (.int .u32 ((le ((X.drop 12).take 4) : Nat) : Int)), .val (.int .i64 0), .val (.int .i64 0), .val (.string (ByteArray.mk #[])), .val (.slice none 0 0)] := by
       unfold hdX Hd.cells
       simp only [if_pos h18]
     rw [w8, w9, w18, w10, w16]
     refine Or.inr ⟨Unit, fun _ => ⟨[(2, .o (.c (.ptr 0 0))), (3, .o (.c (.ptr 1 0)))], [.cells 50 ((hdX X).cells (.slice none 0 0)), .cells 3 [.val (.int .i64 ((0 : Nat) : Int))]]⟩, ?_, fun _ => ?_⟩
     · conv => whnf
       refine ⟨Unit, fun _ => ⟨[(2, .o (.c (.ptr 0 0))), (3, .o (.c (.ptr 1 0))), (63, .o (.c (.val (.int .i64 ((0 : Nat) : Int))))), (64, .o (.c (.val (.int .i64 ((0 : Nat) : Int)))))], [.cells 50 ((hdX X).cells (.slice none 0 0)), .cells 3 [.val (.int .i64 ((0 : Nat) : Int))]]⟩, fun _ => 0, ⟨(), [0, 1], ⟨rfl, ⟨congrArg (fun z => some (Blk.cells 50 z)) hc.symm, rfl, rfl, rfl, trivial⟩, rfl⟩, rfl, rfl, rfl, rfl, trivial⟩, fun _ => ?_⟩
       conv => whnf
       refine ⟨fun g => zF g, fun _ => ?_⟩
       conv => whnf
       exact ⟨(), [0, 1], ⟨rfl, ⟨rfl, rfl, rfl, rfl, trivial⟩, rfl⟩, rfl, rfl, trivial⟩
     · conv => whnf
       exact Or.inr ⟨[], .t [.a ((hdX X).cells (.slice none 0 0)), .c (.val (.int .i64 ((0 : Nat) : Int)))], [], ⟨rfl, trivial, rfl⟩, rfl, rfl, .inl ⟨h1, rfl⟩⟩
   · have hXl : 21 ≤ X.length ∧ X.length ≤ 65536 := by
       rcases hokM with ⟨h0, _⟩ | ⟨_, h0⟩
       · exact absurd h0 h18
       · exact ⟨by omega, hlX⟩
     simp only [if_neg h18]
     refine ⟨.t [.c (.ptr 2 0), .c (.ptr 10 0), .c (.val .nilIface)], [.cells 50 (hd0.cells (.slice none 0 0)), .cells 3 [.val (.int .i64 ((0 : Nat) : Int))], rdB 3 5 6 7 true, srcB 4 L s0, datB L, tabB tabL, psB 8 9 (.sli o 0 c) none false (mkLi g0.hdr 0) (mkHl g0.hdr false), mpB 11 X, .dead, .dead, ohB X, rowB (X.drop 21)], rfl, ⟨rfl, rfl, rfl, srcB_ren (by rfl) _, rfl, rfl, rfl, rfl, rfl, rfl, rfl, rfl, trivial⟩, ?_⟩
     conv => whnf
     refine Or.inl ?_
     conv => whnf
     refine ⟨fun g => zF g, fun _ => ?_⟩
     conv => whnf
     refine CallsA.liftE (H0 := [rdB 3 4 5 1 true, mpB 2 X, rowB (X.drop 21), .dead, .dead, .dead]) [2, 7, 11, 3, 5, 6] rfl ⟨rfl, rfl, rfl, rfl, rfl, rfl, l3 _, l5 _, l6 _, trivial⟩ rfl (chanMapT w0 hXl) ?_
     rintro _ _ ⟨rfl, rfl⟩
     refine ⟨.o (.a [u8 X 19, u8 X 20, .vec 12 (X.drop 21).length, .vec 13 0]), [.cells 50 (hd0.cells (.slice none 0 0)), .cells 3 [.val (.int .i64 ((0 : Nat) : Int))], rdB 3 5 6 7 true, .dead, datB L, .dead, .dead, mpB 11 X, .dead, .dead, ohB X, rowB (X.drop 21), rowB (X.drop 21), i16B], rfl, ⟨rfl, rfl, rfl, rfl, rfl, rfl, rfl, rfl, rfl, rfl, rfl, rfl, rfl, rfl, trivial⟩, ?_⟩
     conv => whnf
     refine ⟨trivial, X.drop 21, ⟨rfl, Nat.le_refl _, rfl, by rw [List.take_length]⟩, ?_⟩
     conv => whnf
     refine ⟨trivial, ?_⟩
     conv => whnf
     have hc : (hdX X).cells (.slice none 0 0) = [.val (.int .i64 ((bt X 8 : Nat) : Int)), .val (.int .i64 ((bt X 9 : Nat) : Int)), .val (.int .i64 ((bt X 18 : Nat) : Int)), .val (.int .i64 ((le ((X.drop 10).take 2) : Nat) : Int)), .val (.int .i64 ((le ((X.drop 16).take 2) : Nat) : Int)), .val (.int .u32 ((le ((X.drop 12).take 4) : Nat) : Int)), .val (.int .i64 ((bt X 19 : Nat) : Int)), .val (.int .i64 ((bt X 20 : Nat) : Int)), .val (.string (strOf (X.drop 21))), .val (.slice none 0 0)] := by
       unfold hdX Hd.cells
       simp only [if_neg h18]
     rw [w8, w9, w18, w10, w16, w19, w20]
     refine Or.inr ⟨Unit, fun _ => ⟨[(2, .o (.c (.ptr 0 0))), (3, .o (.c (.ptr 1 0)))], [.cells 50 ((hdX X).cells (.slice none 0 0)), .cells 3 [.val (.int .i64 ((0 : Nat) : Int))]]⟩, ?_, fun _ => ?_⟩
     · conv => whnf
       refine ⟨Unit, fun _ => ⟨[(2, .o (.c (.ptr 0 0))), (3, .o (.c (.ptr 1 0))), (63, .o (.c (.val (.int .i64 ((0 : Nat) : Int))))), (64, .o (.c (.val (.int .i64 ((0 : Nat) : Int)))))], [.cells 50 ((hdX X).cells (.slice none 0 0)), .cells 3 [.val (.int .i64 ((0 : Nat) : Int))]]⟩, fun _ => 0, ⟨(), [0, 1], ⟨rfl, ⟨congrArg (fun z => some (Blk.cells 50 z)) hc.symm, rfl, rfl, rfl, trivial⟩, rfl⟩, rfl, rfl, rfl, rfl, trivial⟩, fun _ => ?_⟩
       conv => whnf
       refine ⟨fun g => zF g, fun _ => ?_⟩
       conv => whnf
       exact ⟨(), [0, 1], ⟨rfl, ⟨rfl, rfl, rfl, rfl, trivial⟩, rfl⟩, rfl, rfl, trivial⟩
     · conv => whnf
       exact Or.inr ⟨[], .t [.a ((hdX X).cells (.slice none 0 0)), .c (.val (.int .i64 ((0 : Nat) : Int)))], [], ⟨rfl, trivial, rfl⟩, rfl, rfl, .inl ⟨h1, rfl⟩⟩
end Go.Proofs.YtokkphocaloelaaGreatDoor

end
section
namespace Go.Proofs.YtokkphocaloelaaGreatDoor
open Go Go.Vc
set_option maxRecDepth 100000
set_option maxHeartbeats 8000000

def hexA (n : Int) : Option UInt8 := if 0 ≤ n then (ByteArray.mk #[48, 49, 50, 51, 52, 53, 54, 55, 56, 57, 97, 98, 99, 100, 101, 102])[n.toNat]? else none
def hiI (y : UInt8) : Int := ((y.toNat : Nat) : Int).fdiv ((2 : Int) ^ min 4 IntKind.u8.bits)
def loI (y : UInt8) : Int := IntKind.u8.wrap (((BitVec.ofInt IntKind.u8.bits ((y.toNat : Nat) : Int) &&& BitVec.ofInt IntKind.u8.bits ((15 : Nat) : Int)).toNat : Nat) : Int)
theorem hexHi (y : UInt8) : ∃ z, hexA (hiI y) = some z := by
 have h := y.toNat_lt
 have e : hiI y = ((y.toNat / 2 ^ 4 : Nat) : Int) := nshr8 _ 4 (by decide)
 rw [e]
 exact hexAt (Int.natCast_nonneg _) (by omega)
theorem hexLo (y : UInt8) : ∃ z, hexA (loI y) = some z := by
 have := and15 (w := IntKind.u8.bits) (by decide) (BitVec.ofInt IntKind.u8.bits ((y.toNat : Nat) : Int))
 have e : loI y = (((BitVec.ofInt IntKind.u8.bits ((y.toNat : Nat) : Int) &&& BitVec.ofInt IntKind.u8.bits ((15 : Nat) : Int)).toNat : Nat) : Int) := by
   unfold loI
   rw [nwrap8 (by omega)]
 rw [e]
 exact hexAt (Int.natCast_nonneg _) (by omega)
structure QStep (w0 : World) (s : ByteArray) (r : Int) (w : Nat) (x : List Int) : Prop where
 w1 : 1 ≤ w
 w2 : w ≤ s.size
 xl : x.length ≤ 10
 dec : CallsA Tryz.prog w0 130 [.c (.val (.string s))] [] fun y H => y = .t [.c (.val (.int .i32 r)), .c (.val (.int .i64 (w : Nat)))] ∧ H = []
 out : (w = 1 ∧ r = ((65533 : Nat) : Int) ∧ ∃ y0 y1 y2 : UInt8, s[0]? = some y0 ∧ hexA (hiI y0) = some y1 ∧ hexA (loI y0) = some y2 ∧ x = [92, 120] ++ ([((y1.toNat : Nat) : Int)] ++ [((y2.toNat : Nat) : Int)])) ∨
   (¬ (w = 1 ∧ r = ((65533 : Nat) : Int)) ∧ ∀ l : List Int, l.length ≤ 1099511627000 → CallsA Tryz.prog w0 131 [.c (.vec 0 l.length), .c (.val (.int .i32 r)), .c (.val (.int .u8 ((34 : Nat) : Int))), .c (.val (.bool false)), .c (.val (.bool false))] [rowB l] fun y H => ∃ L, L = l ++ x ∧ y = .o (.c (.vec 1 L.length)) ∧ H = [.dead, rowB L])
theorem qstepE {w0 : World} {T : PrT} (hT : T.at w0) {F : Nat → Nat} {A : Nat → Nat × Nat} (ht : UtT w0 F A) : ∀ s : ByteArray, ∃ p : Int × Nat × List Int, 0 < s.size → QStep w0 s p.1 p.2.1 p.2.2 := by
 intro s
 by_cases hs : 0 < s.size
 · obtain ⟨r, w, h1, h2, hc⟩ := decE ht hs
   by_cases hw : w = 1 ∧ r = ((65533 : Nat) : Int)
   · obtain ⟨y0, hy0⟩ : ∃ y : UInt8, s[0]? = some y := ⟨_, getElem?_pos s _ hs⟩
     obtain ⟨y1, hy1⟩ := hexHi y0
     obtain ⟨y2, hy2⟩ := hexLo y0
     exact ⟨(r, w, [92, 120] ++ ([((y1.toNat : Nat) : Int)] ++ [((y2.toNat : Nat) : Int)])), fun _ => ⟨h1, h2, by show 4 ≤ 10; decide, hc, .inl ⟨hw.1, hw.2, y0, y1, y2, hy0, hy1, hy2, rfl⟩⟩⟩
   · obtain ⟨x, hx, he⟩ := escE hT r
     exact ⟨(r, w, x), fun _ => ⟨h1, h2, hx, hc, .inr ⟨hw, he⟩⟩⟩
 · exact ⟨(0, 0, []), fun h => absurd h hs⟩
def qF (st : ByteArray → Int × Nat × List Int) : Nat → ByteArray → List Int
 | 0, _ => []
 | f + 1, s => if s.size = 0 then [] else (st s).2.2 ++ qF st f (s.extract (st s).2.1 s.size)
theorem qF_fuel {w0 : World} {st : ByteArray → Int × Nat × List Int} (h : ∀ s, 0 < s.size → QStep w0 s (st s).1 (st s).2.1 (st s).2.2) : ∀ (f g : Nat) (s : ByteArray), s.size ≤ f → s.size ≤ g → qF st f s = qF st g s
 | 0, 0, _, _, _ => rfl
 | 0, g + 1, s, hf, _ => by
   unfold qF
   rw [if_pos (by omega)]
 | f + 1, 0, s, _, hg => by
   unfold qF
   rw [if_pos (by omega)]
 | f + 1, g + 1, s, hf, hg => by
   unfold qF
   by_cases h0 : s.size = 0
   · rw [if_pos h0, if_pos h0]
   · rw [if_neg h0, if_neg h0]
     have hw := (h s (by omega)).w1
     have hw2 := (h s (by omega)).w2
     have hz : (s.extract (st s).2.1 s.size).size = s.size - (st s).2.1 := by rw [ByteArray.size_extract]; omega
     rw [qF_fuel h f g _ (by omega) (by omega)]
def qA (st : ByteArray → Int × Nat × List Int) (s : ByteArray) : List Int := qF st s.size s
theorem qA_step {w0 : World} {st : ByteArray → Int × Nat × List Int} (h : ∀ s, 0 < s.size → QStep w0 s (st s).1 (st s).2.1 (st s).2.2) {s : ByteArray} (h0 : 0 < s.size) : qA st s = (st s).2.2 ++ qA st (s.extract (st s).2.1 s.size) := by
 have hw := (h s h0).w1
 have hw2 := (h s h0).w2
 have hz : (s.extract (st s).2.1 s.size).size = s.size - (st s).2.1 := by rw [ByteArray.size_extract]; omega
 unfold qA
 obtain ⟨n, hn⟩ : ∃ n, s.size = n + 1 := ⟨s.size - 1, by omega⟩
 have e : qF st s.size s = qF st (n + 1) s := by rw [hn]
 rw [e]
 conv => lhs; unfold qF
 rw [if_neg (by omega), qF_fuel h n (s.extract (st s).2.1 s.size).size _ (by omega) (Nat.le_refl _)]
theorem qA_nil {st : ByteArray → Int × Nat × List Int} {s : ByteArray} (h0 : s.size = 0) : qA st s = [] := by
 unfold qA
 rw [h0]
 rfl
def qE (s : ByteArray) (n : Nat) : Env := [(0, .o (.c (.vec 1 n))), (1, .o (.c (.val (.string s)))), (2, .o (.c (.val (.int .u8 ((34 : Nat) : Int))))), (3, .o (.c (.val (.bool false)))), (4, .o (.c (.val (.bool false))))]
theorem appQuotedW {w0 : World} {st : ByteArray → Int × Nat × List Int} (h : ∀ s, 0 < s.size → QStep w0 s (st s).1 (st s).2.1 (st s).2.2) {s : ByteArray} (hs : s.size ≤ 1073741824) :
   CallsA Tryz.prog w0 118 [.c (.vec 0 0), .c (.val (.string s)), .c (.val (.int .u8 ((34 : Nat) : Int))), .c (.val (.bool false)), .c (.val (.bool false))] [rowB []] fun y H => ∃ L, L = [34] ++ qA st s ++ [34] ∧ L.length ≤ 10 * s.size + 2 ∧ y = .o (.c (.vec 1 L.length)) ∧ H = [.dead, rowB L] := by
 have ec : IntKind.i64.wrap (IntKind.i64.wrap (IntKind.i64.wrap (((0 : Nat) : Int) + ((1 : Nat) : Int)) + ((s.size : Nat) : Int)) + ((1 : Nat) : Int)) = ((s.size + 2 : Nat) : Int) := by
   rw [nadd, nwrapi (by omega), nadd, nwrapi (by omega), nadd, nwrapi (by omega)]
   congr 1
   omega
 refine callsA_of_ev c118_ ?_
 conv => whnf
 refine Or.inr ⟨Unit, fun _ => ⟨qE s 0, [.dead, rowB []]⟩, ?_, fun _ => ?_⟩
 · conv => whnf
   intro c hc
   conv => whnf
   refine ⟨fun g => ?_, fun g => ?_⟩
   · conv => whnf
     rw [ec]
     refine ⟨⟨Int.le_refl 0, Int.natCast_nonneg _, by omega, by omega, by decide⟩, Int, encI .u8, [], (0 : Int), fun _ => rfl, rfl, ?_⟩
     conv => whnf
     refine ⟨rfl, [], ⟨rfl, Nat.le_refl _, rfl, rfl⟩, Nat.le_refl _, ?_⟩
     conv => whnf
     exact ⟨(), [0, 1], ⟨rfl, ⟨l0 _, rfl, rfl, trivial⟩, rfl⟩, rfl, rfl, rfl, rfl, rfl, trivial⟩
   · conv => whnf
     exact ⟨(), [0, 0], ⟨rfl, ⟨l0 _, rfl, rfl, trivial⟩, rfl⟩, rfl, rfl, rfl, rfl, rfl, trivial⟩
 · conv => whnf
   refine ⟨rfl, [_], ⟨rfl, rfl, rfl⟩, apB1 (by simp) (by simp), apB2 (by simp) (by simp), ?_⟩
   conv => whnf
   refine Or.inr ⟨{L : List Int // L = [34] ++ qA st s ∧ L.length ≤ 10 * s.size + 1}, fun ⟨L, _⟩ => ⟨[(0, .o (.c (.vec 1 L.length))), (2, .o (.c (.val (.int .u8 ((34 : Nat) : Int)))))], [.dead, rowB L]⟩, ?_, fun ⟨L, hL, hLl⟩ => ?_⟩
   · conv => whnf
     refine ⟨{x : List Int × ByteArray // [34] ++ qA st s = x.1 ++ qA st x.2 ∧ x.1.length + 10 * x.2.size ≤ 10 * s.size + 1}, fun ⟨⟨L, t⟩, _⟩ => ⟨qE t L.length, [.dead, rowB L]⟩, fun x => x.1.2.size, ⟨⟨([34], s), rfl, by simp only [List.length_cons, List.length_nil]; omega⟩, [0, 3], ⟨rfl, ⟨l0 _, rfl, rfl, trivial⟩, rfl⟩, rfl, rfl, rfl, rfl, rfl, trivial⟩, fun ⟨⟨L, t⟩, h1, h2⟩ => ?_⟩
     simp only at h1 h2
     conv => whnf
     refine ⟨fun g => ?_, fun g => ?_⟩
     · have g : 0 < t.size := gt_t (b := 0) g
       have hq := h t g
       have hqs := qA_step h g
       generalize st t = p at hq hqs
       obtain ⟨r, w, x⟩ := p
       simp only at hq hqs
       have hw1 := hq.w1
       have hw2 := hq.w2
       have hxl := hq.xl
       have hz : (t.extract w t.size).size = t.size - w := by rw [ByteArray.size_extract]; omega
       have hnx : [34] ++ qA st s = (L ++ x) ++ qA st (t.extract w t.size) := by rw [h1, hqs, List.append_assoc]
       have hlx : (L ++ x).length + 10 * (t.extract w t.size).size ≤ 10 * s.size + 1 := by
         rw [List.length_append, hz]
         omega
       conv => whnf
       refine Or.inr ⟨{L' : List Int // L' = L ++ x}, fun ⟨L', _⟩ => ⟨(13, .o (.c (.val (.int .i64 (w : Nat))))) :: qE t L'.length, [.dead, rowB L']⟩, ?_, fun ⟨L', hL'⟩ => ?_⟩
       · conv => whnf
         refine cL0 hq.dec ?_
         rintro _ _ ⟨rfl, rfl⟩
         conv => whnf
         refine Or.inl ?_
         conv => whnf
         rcases hq.out with ⟨rfl, rfl, y0, y1, y2, hy0, hy1, hy2, rfl⟩ | ⟨hno, hesc⟩
         · refine ⟨fun _ => ?_, fun g => zT g⟩
           conv => whnf
           refine ⟨fun _ => ?_, fun g => zT g⟩
           conv => whnf
           refine ⟨rfl, [92, 120], ⟨rfl, rfl, rfl⟩, apB1 (by omega) (by simp), apB2 (by omega) (by simp), ?_⟩
           conv => whnf
           refine ⟨y0, ?_⟩
           conv => whnf
           refine ⟨si_at hy0, ?_⟩
           conv => whnf
           refine ⟨y1, ?_⟩
           conv => whnf
           refine ⟨hy1, ?_⟩
           conv => whnf
           refine ⟨rfl, [_], ⟨rfl, rfl, rfl⟩, apB1 (by simp only [List.length_append, List.length_cons, List.length_nil]; omega) (by simp), apB2 (by simp only [List.length_append, List.length_cons, List.length_nil]; omega) (by simp), ?_⟩
           conv => whnf
           refine ⟨y0, ?_⟩
           conv => whnf
           refine ⟨si_at hy0, ?_⟩
           conv => whnf
           refine ⟨y2, ?_⟩
           conv => whnf
           refine ⟨hy2, ?_⟩
           conv => whnf
           refine ⟨rfl, [_], ⟨rfl, rfl, rfl⟩, apB1 (by simp only [List.length_append, List.length_cons, List.length_nil]; omega) (by simp), apB2 (by simp only [List.length_append, List.length_cons, List.length_nil]; omega) (by simp), ?_⟩
           conv => whnf
           exact ⟨⟨_, by rw [List.append_assoc, List.append_assoc]⟩, [0, 6], ⟨rfl, ⟨l0 _, rfl, rfl, trivial⟩, rfl⟩, rfl, rfl, rfl, rfl, rfl, rfl, trivial⟩
         · have hesc := hesc L (by omega)
           refine ⟨fun g1 => ?_, fun g1 => ?_⟩
           · have g1 : w = 1 := beq_t (b := 1) g1
             conv => whnf
             refine ⟨fun g2 => ?_, fun g2 => ?_⟩
             · have g2 : r = ((65533 : Nat) : Int) := beq_iff_eq.1 g2
               exact absurd ⟨g1, g2⟩ hno
             · conv => whnf
               refine CallsA.lift (H0 := [rowB L]) [1] rfl ⟨rfl, rfl, trivial⟩ rfl hesc ?_
               rintro _ _ ⟨L', hL', rfl, rfl⟩
               conv => whnf
               exact ⟨⟨L', hL'⟩, [0, 2], ⟨rfl, ⟨l0 _, rfl, rfl, trivial⟩, rfl⟩, rfl, rfl, rfl, rfl, rfl, rfl, trivial⟩
           · conv => whnf
             refine CallsA.lift (H0 := [rowB L]) [1] rfl ⟨rfl, rfl, trivial⟩ rfl hesc ?_
             rintro _ _ ⟨L', hL', rfl, rfl⟩
             conv => whnf
             exact ⟨⟨L', hL'⟩, [0, 2], ⟨rfl, ⟨l0 _, rfl, rfl, trivial⟩, rfl⟩, rfl, rfl, rfl, rfl, rfl, rfl, trivial⟩
       · subst hL'
         conv => whnf
         refine ⟨⟨Int.natCast_nonneg _, Int.ofNat_le.2 hw2, Int.le_refl _⟩, ?_⟩
         conv => whnf
         exact ⟨⟨(L ++ x, t.extract w t.size), hnx, hlx⟩, ⟨[0, 1], ⟨rfl, ⟨l0 _, rfl, rfl, trivial⟩, rfl⟩, rfl, rfl, rfl, rfl, rfl, trivial⟩, by show (t.extract w t.size).size < t.size; omega⟩
     · have g : t.size ≤ 0 := gt_f (b := 0) g
       rw [qA_nil (show t.size = 0 by omega), List.append_nil] at h1
       conv => whnf
       exact ⟨⟨L, h1.symm, by omega⟩, [0, 1], ⟨rfl, ⟨l0 _, rfl, rfl, trivial⟩, rfl⟩, rfl, rfl, trivial⟩
   · conv => whnf
     refine ⟨rfl, [_], ⟨rfl, rfl, rfl⟩, apB1 (by omega) (by simp), apB2 (by omega) (by simp), ?_⟩
     conv => whnf
     exact Or.inr ⟨[0, 3], _, [.dead, rowB _], ⟨rfl, ⟨l0 _, rfl, rfl, trivial⟩, rfl⟩, rfl, ⟨L ++ [34], by rw [hL], by rw [List.length_append]; show L.length + 1 ≤ _; omega, rfl, rfl⟩⟩
theorem quoteE {w0 : World} {T : PrT} (hT : T.at w0) {F : Nat → Nat} {A : Nat → Nat × Nat} (ht : UtT w0 F A) {s : ByteArray} (hs : s.size ≤ 1073741824) : ∃ q : ByteArray, q.size ≤ 10 * s.size + 2 ∧ CallsA Tryz.prog w0 44 [.c (.val (.string s))] [] fun r H => r = .o (.c (.val (.string q))) ∧ H = [] := by
 obtain ⟨st, h⟩ := Classical.axiomOfChoice (qstepE hT ht)
 obtain ⟨L, hL⟩ : ∃ L, L = [34] ++ qA st s ++ [34] := ⟨_, rfl⟩
 have hq := appQuotedW h hs
 have hw : CallsA Tryz.prog w0 86 [.c (.val (.string s)), .c (.val (.int .u8 ((34 : Nat) : Int))), .c (.val (.bool false)), .c (.val (.bool false))] [] fun r H => (r = .o (.c (.val (.string (strOf L)))) ∧ L.length ≤ 10 * s.size + 2) ∧ H = [] := by
   have em : IntKind.i64.wrap (((3 : Nat) : Int) * ((s.size : Nat) : Int)) = ((3 * s.size : Nat) : Int) := by rw [nmul, nwrapi (by omega)]
   have em2 : IntKind.i64.wrap ((IntKind.i64.wrap (((3 : Nat) : Int) * ((s.size : Nat) : Int))).tdiv ((2 : Nat) : Int)) = ((3 * s.size / 2 : Nat) : Int) := by rw [em, ntdiv, nwrapi (by omega)]
   refine callsA_of_ev c86_ ?_
   conv => whnf
   rw [em2]
   refine ⟨⟨Int.le_refl 0, Int.natCast_nonneg _, by omega, by omega, by decide⟩, Int, encI .u8, [], (0 : Int), fun _ => rfl, rfl, ?_⟩
   conv => whnf
   refine CallsA.lift (H0 := [rowB []]) [0] rfl ⟨rfl, rfl, trivial⟩ rfl hq ?_
   rintro _ _ ⟨L', hL', hLl, rfl, rfl⟩
   rw [← hL] at hL'
   subst hL'
   conv => whnf
   refine ⟨trivial, L', ⟨rfl, Nat.le_refl _, rfl, by rw [List.take_length]⟩, ?_⟩
   conv => whnf
   exact Or.inr ⟨[], .o (.c (.val (.string (strOf L')))), [], ⟨rfl, trivial, rfl⟩, rfl, ⟨rfl, hLl⟩, rfl⟩
 have hfin : CallsA Tryz.prog w0 44 [.c (.val (.string s))] [] fun r H => (r = .o (.c (.val (.string (strOf L)))) ∧ L.length ≤ 10 * s.size + 2) ∧ H = [] := by
   refine callsA_of_ev c44_ ?_
   conv => whnf
   refine cL0 hw ?_
   rintro _ _ ⟨⟨rfl, hLl⟩, rfl⟩
   conv => whnf
   exact Or.inr ⟨[], .o (.c (.val (.string (strOf L)))), [], ⟨rfl, trivial, rfl⟩, rfl, ⟨rfl, hLl⟩, rfl⟩
 by_cases hl : L.length ≤ 10 * s.size + 2
 · exact ⟨strOf L, by rw [strOf_siz]; exact hl, hfin.mono fun _ _ h => ⟨h.1.1, h.2⟩⟩
 · exact ⟨ByteArray.mk #[], Nat.zero_le _, hfin.mono fun _ _ h => absurd h.1.2 hl⟩
end Go.Proofs.YtokkphocaloelaaGreatDoor

end
section
section
namespace Go.Proofs.YtokkphocaloelaaGreatDoor
open Go Go.Vc
set_option maxRecDepth 100000

structure EncS where
 buf : List Int
 tail : List Int
 win : Nat
 nend : Nat
 rng : Nat
 low : Nat
 rem : Int
 ext : Nat
 total : Nat
def EncS.blk (e : EncS) (i j : Nat) : Blk := .cells 134 [.vec i e.buf.length, .vec j e.tail.length, .val (.int .u64 e.win), .val (.int .u64 e.nend), .val (.int .u32 e.rng), .val (.int .u32 e.low), .val (.int .i64 e.rem), .val (.int .i64 e.ext), .val (.int .u64 e.total)]
def byteBlk (xs : List Int) : Blk := .vec true 5 (encI .u8) [] 1 xs
def EncS.H (e : EncS) : List Blk := [e.blk 1 2, byteBlk e.buf, byteBlk e.tail]
def EncS.init : EncS := ⟨[], [], 0, 0, 2147483648, 0, -1, 0, 33⟩
theorem encInit (w0 : World) : CallsA Tryz.prog w0 59 [.c (.ptr 0 0)] [.cells 134 [.val (.slice none 0 0), .val (.slice none 0 0), .val (.int .u64 0), .val (.int .u64 0), .val (.int .u32 0), .val (.int .u32 0), .val (.int .i64 0), .val (.int .i64 0), .val (.int .u64 0)]] fun r H => r = .t [] ∧ H = EncS.init.H := by
 refine callsA_of_ev c59_ ?_
 conv => whnf
 refine ⟨rfl, rfl, Or.inr ⟨5, Int, encI .u8, by omega, fun _ => rfl, ?_⟩⟩
 conv => whnf
 refine ⟨rfl, rfl, Or.inr ⟨5, Int, encI .u8, by omega, fun _ => rfl, ?_⟩⟩
 conv => whnf
 exact Or.inl ⟨rfl, rfl⟩
end Go.Proofs.YtokkphocaloelaaGreatDoor
end
section
namespace Go.Proofs.YtokkphocaloelaaGreatDoor
open Go Go.Vc
set_option maxRecDepth 100000

theorem encFinal (w0 : World) (e : EncS) : CallsA Tryz.prog w0 67 [.c (.ptr 0 0)] e.H fun r H => r = u32 e.rng ∧ H = e.H := by
 refine callsA_of_ev c67_ ?_
 conv => whnf
 exact Or.inl ⟨rfl, rfl⟩
def EncS.tell (e : EncS) : Nat := e.total - len e.rng
theorem encTell (w0 : World) (e : EncS) (h : e.total ≤ 4611686018427387904) (h1 : 1 ≤ e.rng) (h2 : e.rng < 4294967296) : CallsA Tryz.prog w0 68 [.c (.ptr 0 0)] e.H fun r H => r = u64 e.tell ∧ H = e.H := by
 have hl1 := le_len (n := e.rng) (k := 0) h1
 have hl2 := len_le (n := e.rng) (k := 32) h2
 refine callsA_of_ev c68_ ?_
 conv => whnf
 refine (len32 w0 e.H h2).mono ?_
 rintro _ _ ⟨rfl, rfl⟩
 conv => whnf
 refine Or.inl ?_
 conv => whnf
 simp (disch := omega) only [nwrap64]
 refine ⟨fun h3 => ?_, fun h3 => ?_⟩
 · have := beq_t h3
   omega
 · conv => whnf
   refine Or.inl ?_
   conv => whnf
   refine ⟨fun h4 => ?_, fun h4 => ?_⟩
   · have h4 := le_t h4
     conv => whnf
     refine Or.inl ⟨u64_of ?_, rfl⟩
     unfold EncS.tell
     omega
   · have h4 := le_f h4
     conv => whnf
     refine Or.inl ⟨u64_of ?_, rfl⟩
     unfold EncS.tell
     rw [nsub (by omega), nwrap64 (by omega)]
theorem EncS.embH {e : EncS} {H : List Blk} {e0 env : Env} (hd : H = e.H) (he : embE [0, 1, 2] env e0) : EmbS 3 ⟨e0, e.H⟩ ⟨env, H⟩ := by
 subst hd
 exact ⟨[0, 1, 2], ⟨rfl, ⟨rfl, rfl, rfl, rfl, rfl, rfl, trivial⟩, rfl⟩, he⟩
def EncS.frac (e : EncS) : Nat := Go.Proofs.YtokkphocaloelaaGreatDoor.frac e.total e.rng
theorem encTellFrac (w0 : World) (d : EncS) (hnb : d.total ≤ 1152921504606846976) (h1 : 8388608 ≤ d.rng) (h2 : d.rng < 4294967296) : CallsA Tryz.prog w0 69 [.c (.ptr 0 0)] d.H fun r H => r = u64 d.frac ∧ H = d.H := by
 have hl1 := le_len (n := d.rng) (k := 23) h1
 have hl2 := len_le (n := d.rng) (k := 32) h2
 obtain ⟨ht1, ht2⟩ := top_bits h1
 refine callsA_of_ev c69_ ?_
 conv => whnf
 refine (len32 w0 d.H h2).mono ?_
 rintro _ _ ⟨rfl, rfl⟩
 conv => whnf
 refine Or.inl ?_
 conv => whnf
 simp (disch := omega) only [nwrap64]
 refine ⟨fun h3 => ?_, fun h3 => ?_⟩
 · have h3 : ((len d.rng : Nat) : Int) = ((0 : Nat) : Int) := by simpa using h3
   omega
 · conv => whnf
   refine Or.inl ?_
   conv => whnf
   refine ⟨fun h4 => ?_, fun h4 => ?_⟩
   · have h4 := of_decide_eq_true h4
     have h4 : ((len d.rng : Nat) : Int) < ((24 : Nat) : Int) := h4
     omega
   · conv => whnf
     simp (disch := omega) only [nsub, nwrap64]
     refine ⟨by omega, ?_⟩
     conv => whnf
     simp (disch := omega) only [Int.toNat_natCast, nshr32, nwrap64]
     refine Or.inl ?_
     conv => whnf
     refine ⟨_root_.Fin 4, fun ⟨k, _⟩ => ⟨[(0, .o (.c (.ptr 0 0))), (3, .o (.c (.val (.int .u64 ((fracIter (d.rng / 2 ^ (len d.rng - 16), len d.rng) k).2 : Nat))))), (4, .o (.c (.val (.int .u64 ((fracIter (d.rng / 2 ^ (len d.rng - 16), len d.rng) k).1 : Nat))))), (33, .o (.c (.val (.int .i64 (k : Nat)))))], d.H⟩, fun k => 3 - k.1, ⟨0, EncS.embH rfl ⟨rfl, rfl, rfl, rfl, trivial⟩⟩, fun ⟨k, hk⟩ => ?_⟩
     obtain ⟨a, b, c⟩ := fracIter_lt (p := (d.rng / 2 ^ (len d.rng - 16), len d.rng)) ht1 ht2 hl2 k (by omega)
     have hpk : 2 ^ k ≤ 2 ^ 3 := Nat.pow_le_pow_right (by omega) (by omega)
     obtain ⟨a', b', c', d'⟩ := fracStep_lt a b
     conv => whnf
     refine ⟨fun h5 => ?_, fun h5 => ?_⟩
     · have h5 := of_decide_eq_true h5
       have h5 : (k : Int) < ((3 : Nat) : Int) := h5
       conv => whnf
       refine Or.inl ?_
       conv => whnf
       have hs : fracIter (d.rng / 2 ^ (len d.rng - 16), len d.rng) (k + 1) = fracStep (fracIter (d.rng / 2 ^ (len d.rng - 16), len d.rng) k) := rfl
       generalize hq : fracIter (d.rng / 2 ^ (len d.rng - 16), len d.rng) k = q at *
       obtain ⟨r, l⟩ := q
       simp only at a b c d'
       have hb2 : r * r / 32768 / 65536 ≤ 1 := by omega
       simp (disch := omega) only [nmul, nwrap64, nshr64, nadd]
       refine ⟨fun h6 => ?_, fun h6 => ?_⟩
       · have h6 : r * r / 2 ^ 15 / 2 ^ 16 ≠ 0 := by
           intro h0
           rw [h0] at h6
           cases h6
         conv => whnf
         refine ⟨⟨k + 1, by omega⟩, EncS.embH rfl ⟨rfl, ?_, ?_, ?_, trivial⟩, ?_⟩
         · refine eq_u64 ?_
           rw [hs]
           rfl
         · refine eq_u64 ?_
           rw [hs, nshr64 _ _ (by omega), fracStep_pos h6]
         · refine eq_i64 ?_
           rw [nadd, nwrapi (by omega)]
         · show 3 - (k + 1) < 3 - k
           omega
       · have h6 : r * r / 2 ^ 15 / 2 ^ 16 = 0 := bne_f h6
         conv => whnf
         refine ⟨⟨k + 1, by omega⟩, EncS.embH rfl ⟨rfl, ?_, ?_, ?_, trivial⟩, ?_⟩
         · refine eq_u64 ?_
           rw [hs]
           rfl
         · refine eq_u64 ?_
           rw [hs, fracStep_neg h6]
         · refine eq_i64 ?_
           rw [nadd, nwrapi (by omega)]
         · show 3 - (k + 1) < 3 - k
           omega
     · have h5 := of_decide_eq_false h5
       have h5 : ¬ (k : Int) < ((3 : Nat) : Int) := h5
       have hk3 : k = 3 := by omega
       subst hk3
       conv => whnf
       refine Or.inl ?_
       conv => whnf
       simp (disch := omega) only [nmul, nwrap64]
       refine ⟨fun h6 => ?_, fun h6 => ?_⟩
       · have h6 := of_decide_eq_true h6
         conv => whnf
         refine Or.inl ⟨u64_of ?_, rfl⟩
         have h6 : ((d.total * 8 : Nat) : Int) ≤ ((fracIter (d.rng / 2 ^ (len d.rng - 16), len d.rng) 3).2 : Nat) := h6
         show (0 : Int) = ((d.total * 8 - (fracIter (d.rng / 2 ^ (len d.rng - 16), len d.rng) 3).2 : Nat) : Int)
         omega
       · have h6 := of_decide_eq_false h6
         conv => whnf
         refine Or.inl ⟨u64_of ?_, rfl⟩
         have h6 : ¬ ((d.total * 8 : Nat) : Int) ≤ ((fracIter (d.rng / 2 ^ (len d.rng - 16), len d.rng) 3).2 : Nat) := h6
         show _ = ((d.total * 8 - (fracIter (d.rng / 2 ^ (len d.rng - 16), len d.rng) 3).2 : Nat) : Int)
         rw [nsub (by omega), nwrap64 (by omega)]
end Go.Proofs.YtokkphocaloelaaGreatDoor
end
section
namespace Go.Proofs.YtokkphocaloelaaGreatDoor
open Go Go.Vc
set_option maxRecDepth 100000

theorem bitMaskW (w0 : World) (H : List Blk) {n : Nat} (h : n < 32) : CallsA Tryz.prog w0 104 [.c (.val (.int .u64 n))] H fun r H' => r = u32 (2 ^ n - 1) ∧ H' = H := by
 have hp : 2 ^ n ≤ 2 ^ 31 := Nat.pow_le_pow_right (by omega) (by omega)
 have hp0 : 1 ≤ 2 ^ n := Nat.one_le_two_pow
 refine callsA_of_ev c104_ ?_
 conv => whnf
 refine Or.inl ?_
 conv => whnf
 refine ⟨fun h1 => absurd (ge_t h1) (by omega), fun _ => ?_⟩
 conv => whnf
 refine ⟨by omega, ?_⟩
 conv => whnf
 refine Or.inl ⟨u32_of ?_, rfl⟩
 rw [Int.toNat_natCast, nshl32 _ _ (by omega), Nat.one_mul, nwrap32 (by omega), nsub hp0, nwrap32 (by omega)]
theorem boolToIntW (w0 : World) (H : List Blk) (b : Bool) : CallsA Tryz.prog w0 108 [.c (.val (.bool b))] H fun r H' => r = i64 (bif b then 1 else 0) ∧ H' = H := by
 refine callsA_of_ev c108_ ?_
 conv => whnf
 refine Or.inl ?_
 conv => whnf
 refine ⟨fun h => ?_, fun h => ?_⟩
 · subst h
   conv => whnf
   exact Or.inl ⟨rfl, rfl⟩
 · subst h
   conv => whnf
   exact Or.inl ⟨rfl, rfl⟩
theorem shouldW (w0 : World) (e : EncS) (n : Nat) (h : 0 < e.nend) (hb : e.buf.length ≠ 0) (hn : e.nend ≤ n) : CallsA Tryz.prog w0 109 [.c (.ptr 0 0), .c (.val (.int .u64 n))] e.H fun r H' => r = .o (.c (.val (.bool false))) ∧ H' = e.H := by
 refine callsA_of_ev c109_ ?_
 conv => whnf
 refine ⟨fun _ => ?_, fun h1 => absurd (gt_f h1) (by omega)⟩
 conv => whnf
 refine ⟨fun h1 => absurd (beq_t h1) hb, fun _ => ?_⟩
 conv => whnf
 refine Or.inl ⟨?_, rfl⟩
 have : decide ((e.nend : Int) > (n : Int)) = false := decide_eq_false (by omega)
 rw [this]
 rfl
theorem carryN (w0 : World) (e : EncS) (hr : e.rem = -1) (hx : e.ext = 0) {v : Nat} (hv : v < 255) : CallsA Tryz.prog w0 107 [.c (.ptr 0 0), .c (.val (.int .i64 v))] e.H fun r H => r = .t [] ∧ H = ({ e with rem := v } : EncS).H := by
 refine callsA_of_ev c107_ ?_
 conv => whnf
 refine Or.inl ?_
 conv => whnf
 refine ⟨fun h1 => ?_, fun h1 => absurd (bne_f h1) (by omega)⟩
 conv => whnf
 refine Or.inl ?_
 conv => whnf
 refine ⟨fun h2 => absurd (of_decide_eq_true h2 : (0 : Int) ≤ e.rem) (by omega), fun _ => ?_⟩
 conv => whnf
 refine Or.inl ?_
 conv => whnf
 refine ⟨fun h1 => absurd (gt_t h1) (by omega), fun _ => ?_⟩
 conv => whnf
 refine Or.inl ⟨rfl, ?_⟩
 rw [nandi (by omega) (by omega), show (255 : Nat) = 2 ^ 8 - 1 by rfl, nand_mask, Nat.mod_eq_of_lt (by omega)]
 rfl
theorem carryP (w0 : World) (e : EncS) (hr : 0 ≤ e.rem) (hr2 : e.rem < 256) (hx : e.ext = 0) (hb : e.buf.length ≤ 1048576) {v : Nat} (hv : v < 255) : CallsA Tryz.prog w0 107 [.c (.ptr 0 0), .c (.val (.int .i64 v))] e.H fun r H => r = .t [] ∧ H = [({ e with rem := v, buf := e.buf ++ [e.rem] } : EncS).blk 3 2, .dead, byteBlk e.tail, byteBlk (e.buf ++ [e.rem])] := by
 refine callsA_of_ev c107_ ?_
 conv => whnf
 refine Or.inl ?_
 conv => whnf
 refine ⟨fun h1 => ?_, fun h1 => absurd (bne_f h1) (by omega)⟩
 conv => whnf
 refine Or.inl ?_
 conv => whnf
 refine ⟨fun _ => ?_, fun h2 => absurd hr (of_decide_eq_false h2)⟩
 conv => whnf
 refine ⟨⟨⟨rfl, rfl⟩, trivial⟩, ?_⟩
 conv => whnf
 have hX : IntKind.u8.wrap (IntKind.i64.wrap (e.rem + ((v : Nat) : Int).fdiv (2 ^ min 8 IntKind.i64.bits))) = e.rem := by
   rw [nshri _ _ (by omega), show v / 2 ^ 8 = 0 by omega, IntKind.wrap_i64, IntKind.wrap_u8]
   omega
 refine ⟨rfl, [e.rem], ⟨rfl, rfl, congrArg (fun x => [CV.val (.int .u8 x)]) hX.symm⟩, by rw [List.length_append, List.length_singleton]; omega, by rw [List.length_append, List.length_singleton]; omega, ?_⟩
 conv => whnf
 refine ⟨trivial, ?_⟩
 conv => whnf
 refine ⟨trivial, ?_⟩
 conv => whnf
 refine Or.inl ?_
 conv => whnf
 refine ⟨fun h1 => absurd (gt_t h1) (by omega), fun _ => ?_⟩
 conv => whnf
 have hrem : IntKind.i64.wrap (((BitVec.ofInt IntKind.i64.bits (v : Int) &&& BitVec.ofInt IntKind.i64.bits ((255 : Nat) : Int)).toNat : Nat) : Int) = (v : Int) := by
   rw [nandi (by omega) (by omega), show (255 : Nat) = 2 ^ 8 - 1 by rfl, nand_mask, Nat.mod_eq_of_lt (by omega)]
 refine Or.inr ⟨[0, 1, 2, 4], .t [], [({ e with rem := v, buf := e.buf ++ [e.rem] } : EncS).blk 3 2, .dead, byteBlk e.tail, byteBlk (e.buf ++ [e.rem])], ⟨rfl, ⟨congrArg (fun x : Int => some (Blk.cells 134 [.vec 4 (e.buf ++ [e.rem]).length, .vec 2 e.tail.length, .val (.int .u64 e.win), .val (.int .u64 e.nend), .val (.int .u32 e.rng), .val (.int .u32 e.low), .val (.int .i64 x), .val (.int .i64 e.ext), .val (.int .u64 e.total)])) hrem, rfl, Nat.le_of_ble_eq_true rfl, rfl, rfl, rfl, rfl, trivial⟩, rfl⟩, rfl, rfl, rfl⟩
theorem normStop (w0 : World) (e : EncS) (h : 8388608 < e.rng) : CallsA Tryz.prog w0 102 [.c (.ptr 0 0)] e.H fun r H => r = .t [] ∧ H = e.H := by
 refine callsA_of_ev c102_ ?_
 conv => whnf
 refine ⟨Unit, fun _ => ⟨[(0, .o (.c (.ptr 0 0)))], e.H⟩, fun _ => 0, ⟨(), EncS.embH rfl ⟨rfl, trivial⟩⟩, fun _ => ?_⟩
 conv => whnf
 refine ⟨fun h1 => absurd (le_t h1) (by omega), fun _ => ?_⟩
 conv => whnf
 exact Or.inl ⟨rfl, rfl⟩
end Go.Proofs.YtokkphocaloelaaGreatDoor
end
section
namespace Go.Proofs.YtokkphocaloelaaGreatDoor
open Go Go.Vc
set_option maxRecDepth 100000
set_option maxHeartbeats 4000000

def E1 : EncS := ⟨[], [], 0, 0, 8589934, 1666447344, -1, 0, 33⟩
def E2 : EncS := ⟨[], [], 1, 2, 8589934, 1666447344, -1, 0, 35⟩
theorem cumA (w0 : World) : CallsA Tryz.prog w0 60 [.c (.ptr 0 0), .c (.val (.int .u32 ((194 : Nat) : Int))), .c (.val (.int .u32 ((195 : Nat) : Int))), .c (.val (.int .u32 ((250 : Nat) : Int)))] EncS.init.H fun r H => r = .t [] ∧ H = E1.H := by
 refine callsA_of_ev c60_ ?_
 conv => whnf
 refine Or.inl ?_
 conv => whnf
 refine ⟨fun h => absurd (beq_t h) (by decide), fun _ => ?_⟩
 conv => whnf
 refine ⟨fun h => absurd (ge_t h) (by decide), fun _ => ?_⟩
 conv => whnf
 refine ⟨fun h => absurd (gt_t h) (by decide), fun _ => ?_⟩
 conv => whnf
 refine ⟨by decide, ?_⟩
 conv => whnf
 refine Or.inl ?_
 conv => whnf
 refine ⟨fun _ => ?_, fun h => absurd (bne_f h) (by decide)⟩
 conv => whnf
 refine ⟨by first | exact trivial | exact ⟨⟨rfl, rfl⟩, trivial⟩, ?_⟩
 conv => whnf
 refine (normStop w0 E1 (by decide)).mono ?_
 rintro _ _ ⟨rfl, rfl⟩
 conv => whnf
 exact Or.inl ⟨rfl, rfl⟩
theorem rawA (w0 : World) : CallsA Tryz.prog w0 65 [.c (.ptr 0 0), .c (.val (.int .u64 ((2 : Nat) : Int))), .c (.val (.int .u32 ((1 : Nat) : Int)))] E1.H fun r H => r = .t [] ∧ H = E2.H := by
 refine callsA_of_ev c65_ ?_
 conv => whnf
 refine Or.inl ?_
 conv => whnf
 refine ⟨fun h => absurd (beq_t h) (by decide), fun _ => ?_⟩
 conv => whnf
 refine Or.inl ?_
 conv => whnf
 refine ⟨fun _ => ?_, fun h => absurd (lt_f h) (by decide)⟩
 conv => whnf
 refine (bitMaskW w0 E1.H (n := 2) (by decide)).mono ?_
 rintro _ _ ⟨rfl, rfl⟩
 conv => whnf
 refine ⟨by decide, ?_⟩
 conv => whnf
 refine ⟨by first | exact trivial | exact ⟨⟨rfl, rfl⟩, trivial⟩, ?_⟩
 conv => whnf
 refine ⟨Unit, fun _ => ⟨[(0, .o (.c (.ptr 0 0)))], E2.H⟩, fun _ => 0, ⟨(), EncS.embH rfl ⟨rfl, trivial⟩⟩, fun _ => ?_⟩
 conv => whnf
 refine ⟨fun h => absurd (ge_t h) (by decide), fun _ => ?_⟩
 conv => whnf
 exact Or.inl ⟨rfl, rfl⟩
theorem uniA (w0 : World) : CallsA Tryz.prog w0 64 [.c (.ptr 0 0), .c (.val (.int .u32 ((1000 : Nat) : Int))), .c (.val (.int .u32 ((777 : Nat) : Int)))] EncS.init.H fun r H => r = .t [] ∧ H = E2.H := by
 refine callsA_of_ev c64_ ?_
 conv => whnf
 refine Or.inl ?_
 conv => whnf
 refine ⟨fun h => absurd (le_t h) (by decide), fun _ => ?_⟩
 conv => whnf
 refine Or.inl ?_
 conv => whnf
 refine ⟨fun h => absurd (ge_t h) (by decide), fun _ => ?_⟩
 conv => whnf
 refine (len32 w0 EncS.init.H (n := 999) (by decide)).mono ?_
 rintro _ _ ⟨rfl, rfl⟩
 conv => whnf
 refine Or.inl ?_
 conv => whnf
 refine ⟨fun h => absurd (le_t h) (by decide), fun _ => ?_⟩
 conv => whnf
 refine ⟨by decide, ?_⟩
 conv => whnf
 refine ⟨by decide, ?_⟩
 conv => whnf
 refine (cumA w0).mono ?_
 rintro _ _ ⟨rfl, rfl⟩
 conv => whnf
 refine (bitMaskW w0 E1.H (n := 2) (by decide)).mono ?_
 rintro _ _ ⟨rfl, rfl⟩
 conv => whnf
 refine (rawA w0).mono ?_
 rintro _ _ ⟨rfl, rfl⟩
 conv => whnf
 exact Or.inl ⟨rfl, rfl⟩
def E3 : EncS := ⟨[], [], 1, 2, 8589934, 1666447344, 199, 0, 35⟩
def E4 : EncS := ⟨[199], [], 1, 2, 8589934, 1666447344, 0, 0, 35⟩
def flushSt : Nat → S
 | 0 => ⟨[(0, .o (.c (.ptr 0 0))), (3, .o (.c (.val (.int .i64 ((9 : Nat) : Int))))), (5, .o (.c (.val (.int .u32 ((1669332992 : Nat) : Int)))))], E2.H⟩
 | 1 => ⟨[(0, .o (.c (.ptr 0 0))), (3, .o (.c (.val (.int .i64 ((1 : Nat) : Int))))), (5, .o (.c (.val (.int .u32 ((0 : Nat) : Int)))))], E3.H⟩
 | _ => ⟨[(0, .o (.c (.ptr 0 0))), (3, .o (.c (.val (.int .i64 (-7))))), (5, .o (.c (.val (.int .u32 ((0 : Nat) : Int)))))], [E4.blk 3 2, .dead, byteBlk [], byteBlk [199]]⟩
theorem flushA (w0 : World) : CallsA Tryz.prog w0 106 [.c (.ptr 0 0)] E2.H fun r H => r = i64 (-7) ∧ H = [E4.blk 3 2, .dead, byteBlk [], byteBlk [199]] := by
 refine callsA_of_ev c106_ ?_
 conv => whnf
 refine (len32 w0 E2.H (n := 8589934) (by decide)).mono ?_
 rintro _ _ ⟨rfl, rfl⟩
 conv => whnf
 refine ⟨by decide, ?_⟩
 conv => whnf
 refine Or.inl ?_
 conv => whnf
 refine ⟨fun _ => ?_, fun h => absurd h (by decide)⟩
 conv => whnf
 refine Or.inl ?_
 conv => whnf
 refine ⟨_root_.Fin 3, fun ⟨k, _⟩ => flushSt k, fun k => 3 - k.1, ⟨⟨0, by decide⟩, EncS.embH (e := E2) rfl ⟨rfl, rfl, rfl, trivial⟩⟩, fun ⟨k, hk⟩ => ?_⟩
 rcases k with _ | _ | _ | k
 · conv => whnf
   refine ⟨fun _ => ?_, fun h => absurd h (by decide)⟩
   conv => whnf
   refine (carryN w0 E2 rfl rfl (v := 199) (by decide)).mono ?_
   rintro _ _ ⟨rfl, rfl⟩
   conv => whnf
   exact ⟨⟨1, by decide⟩, EncS.embH (e := E3) rfl ⟨rfl, rfl, rfl, trivial⟩, (by show 3 - 1 < 3 - 0; decide)⟩
 · conv => whnf
   refine ⟨fun _ => ?_, fun h => absurd h (by decide)⟩
   conv => whnf
   refine (carryP w0 E3 (by decide) (by decide) rfl (by decide) (v := 0) (by decide)).mono ?_
   rintro _ _ ⟨rfl, rfl⟩
   conv => whnf
   exact ⟨⟨2, by decide⟩, ⟨[0, 1, 2, 3], ⟨rfl, ⟨rfl, rfl, by decide, rfl, rfl, rfl, rfl, trivial⟩, rfl⟩, rfl, rfl, rfl, trivial⟩, (by show 3 - 2 < 3 - 1; decide)⟩
 · conv => whnf
   refine ⟨fun h => absurd h (by decide), fun _ => ?_⟩
   conv => whnf
   exact Or.inl ⟨rfl, rfl⟩
 · omega
def E5 : EncS := ⟨[199, 0], [], 1, 2, 8589934, 1666447344, 0, 0, 35⟩
theorem doneA (w0 : World) : CallsA Tryz.prog w0 70 [.c (.ptr 0 0)] E2.H fun r H => r = .o (.c (.vec 3 2)) ∧ H = [.dead, .dead, .dead, byteBlk [199, 1]] := by
 refine callsA_of_ev c70_ ?_
 conv => whnf
 refine (flushA w0).mono ?_
 rintro _ _ ⟨rfl, rfl⟩
 conv => whnf
 refine Or.inl ?_
 conv => whnf
 refine ⟨fun _ => ?_, fun h => absurd h (by decide)⟩
 conv => whnf
 refine CallsA.lift (H0 := E4.H) [0, 3, 2] rfl ⟨rfl, rfl, rfl, rfl, rfl, rfl, trivial⟩ rfl (carryP w0 E4 (by decide) (by decide) rfl (by decide) (v := 0) (by decide)) ?_
 rintro _ _ ⟨rfl, rfl⟩
 conv => whnf
 refine Or.inl ?_
 conv => whnf
 refine ⟨fun _ => ?_, fun h => absurd h (by decide)⟩
 conv => whnf
 refine CallsA.lift (H0 := E5.H) [0, 4, 2] rfl ⟨rfl, rfl, rfl, rfl, rfl, rfl, trivial⟩ rfl (shouldW w0 E5 7 (by decide) (by decide) (by decide)) ?_
 rintro _ _ ⟨rfl, rfl⟩
 conv => whnf
 refine ⟨⟨⟨rfl, rfl⟩, ⟨rfl, rfl⟩, trivial⟩, ?_⟩
 conv => whnf
 refine (boolToIntW w0 _ false).mono ?_
 rintro _ _ ⟨rfl, rfl⟩
 conv => whnf
 refine ⟨⟨⟨rfl, rfl⟩, ⟨rfl, rfl⟩, trivial⟩, ?_⟩
 conv => whnf
 refine ⟨by decide, ?_⟩
 conv => whnf
 refine ⟨Int, encI .u8, [], 0, fun _ => rfl, rfl, ?_⟩
 conv => whnf
 refine ⟨by first | exact trivial | exact ⟨⟨rfl, rfl⟩, trivial⟩ | exact ⟨⟨rfl, rfl⟩, ⟨rfl, rfl⟩, trivial⟩, ?_⟩
 conv => whnf
 refine ⟨rfl, [199, 0], ⟨rfl, by decide, rfl, rfl⟩, by decide, ?_⟩
 conv => whnf
 refine Or.inl ?_
 conv => whnf
 refine ⟨Unit, fun _ => ⟨[(0, .o (.c (.ptr 0 0))), (4, .o (.c (.val (.int .u64 ((7 : Nat) : Int))))), (5, .o (.c (.vec 5 2))), (56, .o (.c (.vec 2 0))), (57, .o (.c (.val (.int .i64 ((0 : Nat) : Int))))), (58, .o (.c (.val (.int .i64 ((0 : Nat) : Int)))))], [E5.blk 4 2, .dead, byteBlk [], .dead, byteBlk [199, 0], byteBlk [199, 0]]⟩, fun _ => 0, ⟨(), [0, 1, 2, 3, 4, 5], ⟨rfl, ⟨rfl, rfl, by decide, rfl, rfl, by decide, rfl, rfl, rfl, rfl, trivial⟩, rfl⟩, rfl, rfl, rfl, rfl, rfl, rfl, trivial⟩, fun _ => ?_⟩
 conv => whnf
 refine ⟨fun h => absurd h (by decide), fun _ => ?_⟩
 conv => whnf
 refine Or.inl ?_
 conv => whnf
 refine ⟨fun _ => ?_, fun h => absurd h (by decide)⟩
 conv => whnf
 refine (bitMaskW w0 _ (n := 2) (by decide)).mono ?_
 rintro _ _ ⟨rfl, rfl⟩
 conv => whnf
 refine ⟨⟨⟨rfl, rfl⟩, trivial⟩, ?_⟩
 conv => whnf
 refine CallsA.lift (H0 := E5.H) [0, 4, 2] rfl ⟨rfl, rfl, rfl, rfl, rfl, rfl, trivial⟩ rfl (shouldW w0 E5 7 (by decide) (by decide) (by decide)) ?_
 rintro _ _ ⟨rfl, rfl⟩
 conv => whnf
 refine ⟨(fun h => by cases h), fun _ => ?_⟩
 conv => whnf
 refine ⟨by decide, ?_⟩
 conv => whnf
 refine ⟨0, rfl, ?_⟩
 conv => whnf
 refine ⟨by decide, ?_⟩
 conv => whnf
 refine ⟨0, 1, rfl, rfl, ?_⟩
 conv => whnf
 exact Or.inr ⟨[0, 1, 2, 5], .o (.c (.vec 3 2)), [.dead, .dead, .dead, byteBlk [199, 1]], ⟨rfl, ⟨Nat.le_of_ble_eq_true rfl, Nat.le_of_ble_eq_true rfl, Nat.le_of_ble_eq_true rfl, rfl, rfl, trivial⟩, rfl⟩, rfl, rfl, rfl⟩
end Go.Proofs.YtokkphocaloelaaGreatDoor
end
section
namespace Go.Proofs.YtokkphocaloelaaGreatDoor
open Go Go.Vc
set_option maxRecDepth 100000
set_option maxHeartbeats 4000000

def oA : OpV := ⟨3, 1000, 777, 0, 0, .slice none 0 0, []⟩
def opsA : Blk := .vec true 131 encOp [] 6 [oA]
def seenA : SeenV := ⟨0, true, 8589934, E2.tell, E2.frac, 0⟩
def encASt : Nat → S
 | 0 => ⟨[(2, .o (.c (.ptr 1 0))), (3, .o (.c (.ptr 2 0))), (4, .o (.c (.ptr 3 0))), (5, .o (.c (.ptr 4 0))), (10, .o (.c (.vec 0 1))), (11, .o (.c (.val (.int .i64 ((1 : Nat) : Int))))), (12, .o (.c (.val (.int .i64 ((0 : Nat) : Int)))))], [opsA, .cells 9 [.val (.string ByteArray.empty)], .cells 89 [.val (.slice none 0 0)], .cells 3 [.val (.int .i64 ((0 : Nat) : Int))], EncS.init.blk 5 6, byteBlk [], byteBlk []]⟩
 | _ => ⟨[(2, .o (.c (.ptr 1 0))), (3, .o (.c (.ptr 2 0))), (4, .o (.c (.ptr 3 0))), (5, .o (.c (.ptr 4 0))), (10, .o (.c (.vec 0 1))), (11, .o (.c (.val (.int .i64 ((1 : Nat) : Int))))), (12, .o (.c (.val (.int .i64 ((1 : Nat) : Int)))))], [opsA, .cells 9 [.val (.string ByteArray.empty)], .cells 89 [.vec 7 1], .cells 3 [.val (.int .i64 ((0 : Nat) : Int))], E2.blk 5 6, byteBlk [], byteBlk [], .vec true 95 encSeen [] 6 [seenA]]⟩
theorem encodeA (w0 : World) : CallsA Tryz.prog w0 34 [.c (.vec 0 1)] [opsA] fun r H => ∃ s : SeenV, r = .t [.c (.val (.string (strOf [199, 1]))), .c (.vec 1 1), .c (.val (.int .i64 ((0 : Nat) : Int)))] ∧ H = [opsA, .vec true 95 encSeen [] 6 [s]] := by
 refine callsA_of_evD c34_ ?_
 conv => whnf
 refine CallsA.lift (H0 := [.cells 134 [.val (.slice none 0 0), .val (.slice none 0 0), .val (.int .u64 0), .val (.int .u64 0), .val (.int .u32 0), .val (.int .u32 0), .val (.int .i64 0), .val (.int .i64 0), .val (.int .u64 0)]]) [4] rfl ⟨rfl, rfl, trivial⟩ rfl (encInit w0) ?_
 rintro _ _ ⟨rfl, rfl⟩
 conv => whnf
 refine Or.inl ?_
 conv => whnf
 refine ⟨_root_.Fin 2, fun ⟨k, _⟩ => encASt k, fun k => 2 - k.1, ⟨⟨0, by decide⟩, ⟨[0, 1, 2, 3, 4, 5, 6], ⟨rfl, ⟨rfl, rfl, rfl, rfl, rfl, rfl, rfl, rfl, rfl, rfl, rfl, rfl, rfl, rfl, trivial⟩, rfl⟩, rfl, rfl, rfl, rfl, rfl, rfl, rfl, trivial⟩⟩, fun ⟨k, hk⟩ => ?_⟩
 rcases k with _ | _ | k
 · conv => whnf
   refine ⟨fun _ => ?_, fun h => absurd h (by decide)⟩
   conv => whnf
   refine Or.inl ?_
   conv => whnf
   refine ⟨by decide, ?_⟩
   conv => whnf
   refine ⟨oA, rfl, ?_⟩
   conv => whnf
   refine Or.inl ?_
   conv => whnf
   refine ⟨fun h => absurd h (by decide), fun _ => ?_⟩
   conv => whnf
   refine ⟨fun h => absurd h (by decide), fun _ => ?_⟩
   conv => whnf
   refine ⟨fun h => absurd h (by decide), fun _ => ?_⟩
   conv => whnf
   refine ⟨fun _ => ?_, fun h => absurd h (by decide)⟩
   conv => whnf
   refine CallsA.lift (H0 := EncS.init.H) [4, 5, 6] rfl ⟨rfl, rfl, rfl, rfl, rfl, rfl, trivial⟩ rfl (uniA w0) ?_
   rintro _ _ ⟨rfl, rfl⟩
   conv => whnf
   refine CallsA.lift (H0 := E2.H) [4, 5, 6] rfl ⟨rfl, rfl, rfl, rfl, rfl, rfl, trivial⟩ rfl (encFinal w0 E2) ?_
   rintro _ _ ⟨rfl, rfl⟩
   conv => whnf
   refine ⟨⟨⟨rfl, rfl⟩, trivial⟩, ?_⟩
   conv => whnf
   refine CallsA.lift (H0 := E2.H) [4, 5, 6] rfl ⟨rfl, rfl, rfl, rfl, rfl, rfl, trivial⟩ rfl (encTell w0 E2 (by decide) (by decide) (by decide)) ?_
   rintro _ _ ⟨rfl, rfl⟩
   conv => whnf
   refine ⟨⟨⟨rfl, rfl⟩, trivial⟩, ?_⟩
   conv => whnf
   refine CallsA.lift (H0 := E2.H) [4, 5, 6] rfl ⟨rfl, rfl, rfl, rfl, rfl, rfl, trivial⟩ rfl (encTellFrac w0 E2 (by decide) (by decide) (by decide)) ?_
   rintro _ _ ⟨rfl, rfl⟩
   conv => whnf
   refine ⟨⟨⟨rfl, rfl⟩, trivial⟩, ?_⟩
   conv => whnf
   refine ⟨⟨⟨rfl, rfl⟩, trivial⟩, ?_⟩
   conv => whnf
   refine ⟨by decide, SeenV, encSeen, [], [seenA], fun _ => rfl, ⟨rfl, rfl, rfl⟩, by decide, by decide, ?_⟩
   conv => whnf
   refine ⟨by first | exact trivial | exact ⟨⟨rfl, rfl⟩, trivial⟩, ?_⟩
   conv => whnf
   refine ⟨by first | exact trivial | exact ⟨⟨rfl, rfl⟩, trivial⟩, ?_⟩
   conv => whnf
   exact ⟨⟨1, by decide⟩, ⟨[0, 1, 2, 3, 4, 5, 6, 9], ⟨rfl, ⟨rfl, rfl, rfl, rfl, rfl, rfl, rfl, rfl, rfl, rfl, rfl, rfl, rfl, rfl, rfl, rfl, trivial⟩, rfl⟩, rfl, rfl, rfl, rfl, rfl, rfl, rfl, trivial⟩, (by show 2 - 1 < 2 - 0; decide)⟩
 · conv => whnf
   refine ⟨fun h => absurd h (by decide), fun _ => ?_⟩
   conv => whnf
   refine CallsA.lift (H0 := E2.H) [4, 5, 6] rfl ⟨rfl, rfl, rfl, rfl, rfl, rfl, trivial⟩ rfl (doneA w0) ?_
   rintro _ _ ⟨rfl, rfl⟩
   conv => whnf
   refine ⟨⟨⟨rfl, rfl⟩, trivial⟩, ?_⟩
   conv => whnf
   refine ⟨trivial, [199, 1], ⟨rfl, by decide, rfl, rfl⟩, ?_⟩
   conv => whnf
   refine ⟨⟨⟨rfl, rfl⟩, trivial⟩, ?_⟩
   conv => whnf
   refine ⟨by first | exact trivial | exact ⟨⟨rfl, rfl⟩, trivial⟩, ?_⟩
   conv => whnf
   refine ⟨by first | exact trivial | exact ⟨⟨rfl, rfl⟩, trivial⟩, ?_⟩
   conv => whnf
   refine Or.inr ⟨[0, 7], .t [.c (.val (.string (strOf [199, 1]))), .c (.vec 1 1), .c (.val (.int .i64 ((0 : Nat) : Int)))], [opsA, .vec true 95 encSeen [] 6 [seenA]], ⟨rfl, ⟨rfl, rfl, rfl, rfl, trivial⟩, rfl⟩, rfl, seenA, rfl, rfl⟩
 · omega
end Go.Proofs.YtokkphocaloelaaGreatDoor
end
section
namespace Go.Proofs.YtokkphocaloelaaGreatDoor
open Go Go.Vc
set_option maxRecDepth 100000
set_option maxHeartbeats 4000000

def locA : Blk := .cells 87 [.val (.int .i64 ((3 : Nat) : Int)), .val (.int .u32 ((1000 : Nat) : Int)), .val (.int .u32 ((777 : Nat) : Int)), .val (.int .u32 ((0 : Nat) : Int)), .val (.int .i64 ((0 : Nat) : Int)), .val (.slice none 0 0)]
def opsLSt : Nat → S
 | 0 => ⟨[(3, .o (.c (.val (.slice none 0 0)))), (6, .o (.c (.sli 0 6 0 1 1))), (7, .o (.c (.val (.int .i64 ((1 : Nat) : Int))))), (8, .o (.c (.val (.int .i64 ((0 : Nat) : Int)))))], [locA]⟩
 | _ => ⟨[(3, .o (.c (.vec 1 1))), (6, .o (.c (.sli 0 6 0 1 1))), (7, .o (.c (.val (.int .i64 ((1 : Nat) : Int))))), (8, .o (.c (.val (.int .i64 ((1 : Nat) : Int)))))], [locA, opsA]⟩
theorem opsL (w0 : World) : CallsA Tryz.prog w0 33 [.c (.sli 0 6 0 1 1)] [locA] fun r H => r = .o (.c (.vec 1 1)) ∧ H = [locA, opsA] := by
 refine callsA_of_ev c33_ ?_
 conv => whnf
 refine Or.inl ?_
 conv => whnf
 refine ⟨_root_.Fin 2, fun ⟨k, _⟩ => opsLSt k, fun k => 2 - k.1, ⟨⟨0, by decide⟩, ⟨[0], ⟨rfl, ⟨rfl, rfl, trivial⟩, rfl⟩, rfl, rfl, rfl, rfl, trivial⟩⟩, fun ⟨k, hk⟩ => ?_⟩
 rcases k with _ | _ | k
 · conv => whnf
   refine ⟨fun _ => ?_, fun h => absurd h (by decide)⟩
   conv => whnf
   refine ⟨by decide, ?_⟩
   conv => whnf
   refine ⟨by decide, OpV, encOp, [], [oA], fun _ => rfl, ⟨rfl, rfl, rfl⟩, by decide, by decide, ?_⟩
   conv => whnf
   exact ⟨⟨1, by decide⟩, ⟨[0, 3], ⟨rfl, ⟨rfl, rfl, rfl, rfl, trivial⟩, rfl⟩, rfl, rfl, rfl, rfl, trivial⟩, (by show 2 - 1 < 2 - 0; decide)⟩
 · conv => whnf
   refine ⟨fun h => absurd h (by decide), fun _ => ?_⟩
   conv => whnf
   exact Or.inl ⟨rfl, rfl⟩
 · omega
theorem goodA (w0 : World) : oA.good w0 := ⟨by decide, by decide, by decide, Or.inr (Or.inr (Or.inr (Or.inl ⟨rfl, by decide⟩)))⟩
theorem readA : ∃ s : SeenV, (Dec.init (bytesOf (strOf [199, 1]))).seen [oA] = [s] ∧ s.value = ((777 : Nat) : Int) ∧ s.fine = true := ⟨_, rfl, by kernel_rfl, by kernel_rfl⟩
theorem aliveW (w0 : World) : CallsA Tryz.prog w0 15 [] [] fun r H => r = .o (.c (.val (.bool true))) ∧ H = [] := by
 refine callsA_of_ev c15_ ?_
 conv => whnf
 refine CallsA.lift (H0 := [locA]) [0] rfl ⟨rfl, rfl, trivial⟩ rfl (opsL w0) ?_
 rintro _ _ ⟨rfl, rfl⟩
 conv => whnf
 refine CallsA.lift (H0 := [opsA]) [1] rfl ⟨rfl, rfl, trivial⟩ rfl (encodeA w0) ?_
 rintro _ _ ⟨sA, rfl, rfl⟩
 conv => whnf
 refine CallsA.lift (H0 := [opsA]) [1] rfl ⟨rfl, rfl, trivial⟩ rfl (decodeW w0 (b := strOf [199, 1]) (l := [oA]) (by decide) (by decide) (by decide) ?_) ?_
 · intro o ho
   rw [List.mem_singleton] at ho
   subst ho
   exact ⟨goodA w0, rfl⟩
 rintro _ _ ⟨rfl, rfl⟩
 obtain ⟨s, hs, h1, h2⟩ := readA
 rw [hs]
 obtain ⟨sv, sf, sr, st, sc, sl⟩ := s
 simp only at h1 h2
 subst h1 h2
 clear hs
 conv => whnf
 refine ⟨fun _ => ?_, fun h => absurd h (by decide)⟩
 conv => whnf
 refine ⟨fun _ => ?_, fun h => absurd h (by decide)⟩
 conv => whnf
 refine ⟨fun _ => ?_, fun h => absurd h (by decide)⟩
 conv => whnf
 refine ⟨by decide, ?_⟩
 conv => whnf
 refine ⟨_, rfl, ?_⟩
 conv => whnf
 refine ⟨fun _ => ?_, fun h => absurd rfl (ieq_f h)⟩
 conv => whnf
 refine ⟨by decide, ?_⟩
 conv => whnf
 refine ⟨_, rfl, ?_⟩
 conv => whnf
 exact Or.inr ⟨[], .o (.c (.val (.bool true))), [], ⟨rfl, trivial, rfl⟩, rfl, rfl, rfl⟩
end Go.Proofs.YtokkphocaloelaaGreatDoor
end

end
section
namespace Go.Proofs.YtokkphocaloelaaGreatDoor
open Go Go.Vc
open Go.RowKit (Below)
set_option maxRecDepth 100000
set_option maxHeartbeats 8000000

theorem nums64Z (w0 : World) (ma : Option Addr) (mc : Nat) : CallsA Tryz.prog w0 43 [.c (.val (.slice ma 0 mc))] [] fun r H => r = .o (.c (.val (.string (strOf (numsL []))))) ∧ H = [] := by
 refine callsA_of_ev c43_ ?_
 conv => whnf
 refine Or.inl ?_
 conv => whnf
 refine ⟨Unit, fun _ => ⟨[(3, .o (.c (.val (.string (strOf [91]))))), (7, .o (.c (.val (.int .i64 ((0 : Nat) : Int))))), (8, .o (.c (.val (.int .i64 ((0 : Nat) : Int)))))], []⟩, fun _ => 0, ⟨(), [], ⟨rfl, trivial, rfl⟩, rfl, rfl, rfl, trivial⟩, fun _ => ?_⟩
 conv => whnf
 refine ⟨fun g => zF g, fun _ => ?_⟩
 conv => whnf
 refine ⟨by decide, ?_⟩
 conv => whnf
 exact Or.inl ⟨rfl, rfl⟩
theorem all2_get {α β : Type} {R : α → β → Prop} : ∀ {l : List α} {m : List β}, All2 R l m → ∀ {i : Nat} {a : α}, l[i]? = some a → ∃ b, m[i]? = some b ∧ R a b
 | _, _, .nil, i, a, h => by simp at h
 | _, _, .cons h1 h2, i, a, h => by
   cases i with
   | zero =>
     simp at h
     subst h
     exact ⟨_, rfl, h1⟩
   | succ i => exact all2_get h2 (i := i) (by simpa using h)
theorem pows_up {w0 w : World} (hp : pows w0) (hb : Below w0.heap.size w0 w) : pows w := fun i hi => by
 have h := hp i hi
 rw [hb.cell (World.block_lt_of_cell? w0 _ h)]
 exact h
theorem nums8W (w0 : World) (hp : pows w0) {L : List Int} (hL : L.length = 8) (hx : ∀ x ∈ L, -9223372036854775808 ≤ x ∧ x < 9223372036854775808) : CallsA Tryz.prog w0 42 [.c (.sli 0 1 0 8 8)] [.cells 3 (L.map fun x => CV.val (.int .i64 x))] fun r H => r = .o (.c (.val (.string (strOf (numsL L))))) ∧ H = [.cells 3 (L.map fun x => CV.val (.int .i64 x))] := by
 have hcal := (numsV w0 hp (ys := []) (by decide) (fun x hx => (List.not_mem_nil hx).elim)).cal
 refine callsA_base hcal fun ρ w vs hR hA => ?_
 cases hA with
 | cons hv hA =>
   cases hA
   obtain ⟨g', hg, rfl, _⟩ := hv
   obtain ⟨e, hρ, g, arr, k1, k2, k3⟩ := hR.get (b := 0) rfl
   have hgg : g' = g := by
     rw [at_of_get hρ, k1] at hg
     exact (Option.some.inj hg).symm
   subst hgg
   have hcell : ∀ (i : Nat) (x : Int), L[i]? = some x → w.cell? ((Addr.mk g' (0 * 1) none).add (i * 1)) = some (.int .i64 x) := by
     intro i x hi
     have h1 : (L.map fun x => CV.val (.int .i64 x))[i]? = some (CV.val (.int .i64 x)) := by rw [List.getElem?_map, hi]; rfl
     obtain ⟨v, hv, hR1⟩ := all2_get k3 h1
     have : v = .int .i64 x := hR1.1
     subst this
     rw [addr_add, cell_at k2, ← Array.getElem?_toList, show 0 * 1 + i * 1 = i by omega]
     exact hv
   have hn := numsM w (pows_up hp hR.base) (ys := L) (a := Addr.mk g' (0 * 1) none) (c := 8) hcell (by omega) hx
   rw [hL] at hn
   exact ⟨[.c (.val _)], .cons ⟨rfl, rfl⟩ .nil, hn⟩
def hd8L (h : Hd) : List Int := [h.ver, h.ch, h.map, h.skip, h.gain, (h.rate : Int), h.str, h.cou]
theorem lawHeadTextW (w0 : World) (hp : pows w0) (h : Hd) (hr : h.rate < 4294967296) (hi : ∀ x ∈ [h.ver, h.ch, h.map, h.skip, h.gain, h.str, h.cou], -9223372036854775808 ≤ x ∧ x < 9223372036854775808)
   {q : ByteArray} (hqs : q.size ≤ 1099511627776) (hq : CallsA Tryz.prog w0 44 [.c (.val (.string h.mapping))] [] fun r H => r = .o (.c (.val (.string q))) ∧ H = []) (ma : Option Addr) (mc : Nat) :
   CallsA Tryz.prog w0 20 [.a (h.cells (.slice ma 0 mc))] [] fun r H => r = .o (.c (.val (.string (strOf (numsL (hd8L h)) ++ strOf (numsL []) ++ q)))) ∧ H = [] := by
 have hw : IntKind.i64.wrap ((h.rate : Nat) : Int) = ((h.rate : Nat) : Int) := nwrapi (by omega)
 have hx : ∀ x ∈ hd8L h, -9223372036854775808 ≤ x ∧ x < 9223372036854775808 := by
   intro x hx
   simp only [hd8L, List.mem_cons, List.not_mem_nil, or_false] at hx
   rcases hx with rfl | rfl | rfl | rfl | rfl | rfl | rfl | rfl
   · exact hi _ (by simp)
   · exact hi _ (by simp)
   · exact hi _ (by simp)
   · exact hi _ (by simp)
   · exact hi _ (by simp)
   · omega
   · exact hi _ (by simp)
   · exact hi _ (by simp)
 have hn8 := nums8W w0 hp (L := hd8L h) rfl hx
 have hz8 : (strOf (numsL (hd8L h))).size ≤ 1000 := by
   rw [strOf_size']
   have hn := numL_len (l := hd8L h) fun x hx' => by have := hx x hx'; omega
   have h8 : (hd8L h).length = 8 := rfl
   unfold numsL
   rw [List.length_append, List.length_cons]
   show _ + 1 + 1 ≤ 1000
   omega
 have hz0 : (strOf (numsL [])).size = 2 := by rw [strOf_size']; rfl
 refine callsA_of_ev c20_ ?_
 conv => whnf
 refine ⟨⟨⟨rfl, rfl⟩, ⟨rfl, rfl⟩, trivial⟩, ?_⟩
 conv => whnf
 rw [hw]
 refine CallsA.liftE (H0 := [.cells 3 ((hd8L h).map fun x => CV.val (.int .i64 x))]) [1] rfl ⟨rfl, rfl, trivial⟩ rfl hn8 ?_
 rintro _ _ ⟨rfl, rfl⟩
 refine ⟨.o (.c (.val (.string (strOf (numsL (hd8L h)))))), [.cells 25 (h.cells (.slice ma 0 mc)), .cells 3 ((hd8L h).map fun x => CV.val (.int .i64 x))], rfl, ⟨rfl, rfl, trivial⟩, ?_⟩
 conv => whnf
 refine ⟨⟨⟨rfl, rfl⟩, ⟨rfl, rfl⟩, trivial⟩, ?_⟩
 conv => whnf
 refine CallsA.liftE (H0 := []) [] rfl trivial rfl (nums64Z w0 ma mc) ?_
 rintro _ _ ⟨rfl, rfl⟩
 refine ⟨.o (.c (.val (.string (strOf (numsL []))))), [.cells 25 (h.cells (.slice ma 0 mc)), .cells 3 ((hd8L h).map fun x => CV.val (.int .i64 x))], rfl, ⟨rfl, rfl, trivial⟩, ?_⟩
 conv => whnf
 refine ⟨⟨⟨rfl, rfl⟩, trivial⟩, ?_⟩
 conv => whnf
 refine ⟨by omega, ?_⟩
 conv => whnf
 refine CallsA.liftE (H0 := []) [] rfl trivial rfl hq ?_
 rintro _ _ ⟨rfl, rfl⟩
 refine ⟨.o (.c (.val (.string q))), [.cells 25 (h.cells (.slice ma 0 mc)), .cells 3 ((hd8L h).map fun x => CV.val (.int .i64 x))], rfl, ⟨rfl, rfl, trivial⟩, ?_⟩
 conv => whnf
 refine ⟨trivial, ?_⟩
 conv => whnf
 refine ⟨by rw [ByteArray.size_append]; omega, ?_⟩
 conv => whnf
 exact Or.inr ⟨[], _, [], ⟨rfl, trivial, rfl⟩, rfl, rfl, rfl⟩
end Go.Proofs.YtokkphocaloelaaGreatDoor

end
section
namespace Go.Proofs.YtokkphocaloelaaGreatDoor
open Go Go.Vc
set_option maxRecDepth 100000
set_option maxHeartbeats 8000000

theorem Hd.pages_good {h : Hd} (h1 : h.text.2 = 1) : ∀ p ∈ h.pages, p.good := by
 intro p hp
 simp only [Hd.pages, List.mem_cons, List.not_mem_nil, or_false] at hp
 rcases hp with rfl | rfl
 · exact hdPg_good (by have := Hd.text_size h1; omega)
 · refine tgPg_good ?_
   have : tagsS.size = 25 := by unfold tagsS; rw [strOf_siz]; rfl
   omega
end Go.Proofs.YtokkphocaloelaaGreatDoor

end
section
namespace Go.Proofs.YtokkphocaloelaaGreatDoor
open Go Go.Vc
set_option maxRecDepth 100000
set_option maxHeartbeats 8000000

theorem Hd.map_size {h : Hd} (h1 : h.text.2 = 1) : h.mapping.size ≤ 255 := by
 unfold Hd.text at h1
 by_cases c1 : h.bad
 · rw [if_pos c1] at h1
   exact absurd h1 (by decide)
 rw [if_neg c1] at h1
 by_cases c2 : h.map = 0
 · rw [if_pos c2] at h1
   by_cases hc : h.str = 0 ∧ h.cou = 0 ∧ h.mapping.size = 0 ∧ h.ch ≤ 2
   · omega
   · simp only [if_neg hc] at h1
     exact absurd h1 (by decide)
 rw [if_neg c2] at h1
 by_cases c3 : h.bad2
 · rw [if_pos c3] at h1
   exact absurd h1 (by decide)
 unfold Hd.bad at c1
 unfold Hd.bad2 at c3
 omega
theorem lHeadW {w0 : World} {t : TypeId} {v : Nat → Value} (he : Errs w0 t v) (hp : pows w0) {T : PrT} (hT : T.at w0) {F : Nat → Nat} {A : Nat → Nat × Nat} (ht : UtT w0 F A) (h : Hd) (hr : h.rate < 4294967296) (hi : ∀ x ∈ [h.ver, h.ch, h.map, h.skip, h.gain, h.str, h.cou], -9223372036854775808 ≤ x ∧ x < 9223372036854775808)
   {ma : Option Addr} {mn mc : Nat} : CallsA Tryz.prog w0 6 [.a (h.cells (.slice ma mn mc))] [] fun r H => r = .o (.c (.val (.bool true))) ∧ H = [] := by
 refine callsA_of_ev c6_ ?_
 conv => whnf
 refine Or.inl ?_
 conv => whnf
 refine cL0 (zz7W w0 h) ?_
 rintro _ _ ⟨⟨b1, rfl, hm⟩, rfl⟩
 cases b1 with
 | false =>
   conv => whnf
   refine ⟨fun _ => ?_, fun g => absurd g (by decide)⟩
   conv => whnf
   exact Or.inr ⟨[], .o (.c (.val (.bool true))), [], ⟨rfl, trivial, rfl⟩, rfl, rfl, rfl⟩
 | true =>
   have hm := hm rfl
   conv => whnf
   refine ⟨fun g => absurd g (by decide), fun _ => ?_⟩
   conv => whnf
   refine CallsA.liftE (H0 := []) [] rfl trivial rfl (lStreamM w0 h hr hi hm (v := .slice none 0 0) (xs := []) (.inl ⟨rfl, rfl⟩) (by decide)) ?_
   rintro _ _ (⟨rfl, hok, rfl, rfl⟩ | ⟨⟨sa, sb, rfl⟩, rfl⟩)
   · have hbig := Hd.text_size hok.hd
     have hpg := Hd.pages_good hok.hd
     have hokX := Hd.okX hok.hd hr
     obtain ⟨q, hqs, hq⟩ := quoteE hT ht (s := h.mapping) (by have := Hd.map_size hok.hd; omega)
     have hms := Hd.map_size hok.hd
     obtain ⟨hb, hhb⟩ : ∃ hb, hb = strOf (encAll h.pages) := ⟨_, rfl⟩
     have hbb : bytesOf hb = pgEnc (hdPg h.text.1) ++ (pgEnc (tgPg tagsS) ++ []) := by rw [hhb]; exact bytes_str (encAll_byt _ hpg)
     have hR : Byt (pgEnc (tgPg tagsS) ++ []) := (pgEnc_byt (hpg _ (List.mem_cons_of_mem _ (List.mem_cons_self ..)))).append fun x hx => (List.not_mem_nil hx).elim
     obtain ⟨g, o1, o2, o3⟩ := opens_hd (X := h.text.1) (by omega) (fun _ _ => hokX.2) hR
     have hbs : hb.size ≤ 1099511627776 := by
       have hl := bytesOf_len hb
       have hz := encAll_size h.pages hpg
       have hts : (tgPg tagsS).wt ≤ 60 := by decide
       have hhs : (hdPg h.text.1).wt ≤ 400 := by
         show 27 + 1 + (h.text.1.size + 0) ≤ 400
         omega
       have hw : wts h.pages = (hdPg h.text.1).wt + ((tgPg tagsS).wt + 0) := rfl
       have hl2 : hb.size = (encAll h.pages).length := by rw [hhb, strOf_siz]
       omega
     have hoh := iOggHeadW he hbs (g0 := g) (L0 := pgEnc (tgPg tagsS) ++ []) (fun g' rest hg' => by
       rw [hbb] at hg' ⊢
       rw [o1] at hg'
       cases hg'
       exact o3) (by rw [hbb]; exact o1)
     rw [o2] at hoh
     rw [← hhb]
     refine ⟨.t [.c (.val (.string hb)), .c (.val (.string (strOf (encAll (([] : List (Pg × Value)).map Prod.fst))))), .c (.val (.bool true))], [.cells 25 (h.cells (.slice ma 0 mc))], rfl, ⟨rfl, trivial⟩, ?_⟩
     conv => whnf
     refine Or.inl ?_
     conv => whnf
     refine ⟨fun g => absurd g (by decide), fun _ => ?_⟩
     conv => whnf
     refine ⟨fun g1 => ?_, fun g1 => ?_⟩
     · conv => whnf
       exact Or.inr ⟨[], .o (.c (.val (.bool true))), [], ⟨rfl, trivial, rfl⟩, rfl, rfl, rfl⟩
     · have g1 : 0 ≤ h.gain := Int.not_lt.1 (of_decide_eq_false g1)
       rw [hdX_text hok.hd hr g1] at hoh
       conv => whnf
       refine CallsA.liftE (H0 := []) [] rfl trivial rfl hoh ?_
       rintro _ _ ⟨rfl, ⟨_, rfl⟩ | ⟨hno, _⟩⟩
       case inr => exact absurd hokX.1 hno
       refine ⟨.t [.a (h.cells (.slice none 0 0)), .c (.val (.int .i64 ((0 : Nat) : Int)))], [.cells 25 (h.cells (.slice ma 0 mc))], rfl, ⟨rfl, trivial⟩, ?_⟩
       conv => whnf
       refine ⟨fun _ => ?_, fun g => zT g⟩
       conv => whnf
       refine CallsA.liftE (H0 := []) [] rfl trivial rfl (lawHeadTextW w0 hp h hr hi (by omega) hq none 0) ?_
       rintro _ _ ⟨rfl, rfl⟩
       refine ⟨.o (.c (.val (.string (strOf (numsL (hd8L h)) ++ strOf (numsL []) ++ q)))), [.cells 25 (h.cells (.slice ma 0 mc)), .cells 50 (h.cells (.slice none 0 0))], rfl, ⟨rfl, rfl, trivial⟩, ?_⟩
       conv => whnf
       refine ⟨⟨⟨rfl, rfl⟩, trivial⟩, ?_⟩
       conv => whnf
       refine CallsA.liftE (H0 := []) [] rfl trivial rfl (lawHeadTextW w0 hp h hr hi (by omega) hq ma mc) ?_
       rintro _ _ ⟨rfl, rfl⟩
       refine ⟨.o (.c (.val (.string (strOf (numsL (hd8L h)) ++ strOf (numsL []) ++ q)))), [.cells 25 (h.cells (.slice ma 0 mc)), .cells 50 (h.cells (.slice none 0 0))], rfl, ⟨rfl, rfl, trivial⟩, ?_⟩
       conv => whnf
       refine ⟨trivial, ?_⟩
       conv => whnf
       refine ⟨fun _ => ?_, fun g => absurd (show ((strOf (numsL (hd8L h)) ++ strOf (numsL []) ++ q).toList == (strOf (numsL (hd8L h)) ++ strOf (numsL []) ++ q).toList) = false from g) (by rw [beq_self_eq_true]; decide)⟩
       conv => whnf
       refine CallsA.liftE (H0 := []) [] rfl trivial rfl (aliveW w0) ?_
       rintro _ _ ⟨rfl, rfl⟩
       refine ⟨.o (.c (.val (.bool true))), [.cells 25 (h.cells (.slice ma 0 mc)), .cells 50 (h.cells (.slice none 0 0))], rfl, ⟨rfl, rfl, trivial⟩, ?_⟩
       conv => whnf
       refine ⟨trivial, ?_⟩
       conv => whnf
       exact Or.inr ⟨[], .o (.c (.val (.bool true))), [], ⟨rfl, trivial, rfl⟩, rfl, rfl, rfl⟩
   · refine ⟨.t [.c (.val (.string sa)), .c (.val (.string sb)), .c (.val (.bool false))], [.cells 25 (h.cells (.slice ma mn mc))], rfl, ⟨rfl, trivial⟩, ?_⟩
     conv => whnf
     refine Or.inl ?_
     conv => whnf
     refine ⟨fun _ => ?_, fun g => absurd g (by decide)⟩
     conv => whnf
     exact Or.inr ⟨[], .o (.c (.val (.bool true))), [], ⟨rfl, trivial, rfl⟩, rfl, rfl, rfl⟩
end Go.Proofs.YtokkphocaloelaaGreatDoor

end
section
namespace Go.Proofs.YtokkphocaloelaaGreatDoor
open Go Go.Vc
set_option maxRecDepth 100000
set_option maxHeartbeats 8000000

def twoPh : List CV := [.val (.int .u32 ((1 : Nat) : Int)), .val (.int .u32 ((0 : Nat) : Int)), .val (.int .u64 ((0 : Nat) : Int)), .val (.int .i64 ((2 : Nat) : Int)), .sli 0 1 0 1 1, .val (.bool false), .val (.int .u32 ((1 : Nat) : Int)), .val (.int .u32 ((1 : Nat) : Int)), .val (.int .u64 ((0 : Nat) : Int)), .val (.int .i64 ((0 : Nat) : Int)), .sli 1 1 0 1 1, .val (.bool false)]
theorem own_ph {w0 : World} {ρ : Ren} {H : List Blk} {w : World} (hR : RH w0 ρ H w) {T1 T2 T3 : TypeId} {s t : ByteArray} (h1 : H[0]? = some (.cells T1 [.val (.string s)])) (h2 : H[1]? = some (.cells T2 [.val (.string t)])) (h3 : H[2]? = some (.cells T3 twoPh)) {v : Value} (hv : (CV.sli 2 6 0 2 2).R ρ v) :
   ∃ v1 v2, pgsAt w v [(hdPg s, v1), (tgPg t, v2)] ∧ v.oneCell' = true := by
 obtain ⟨e, hρ, g, arr, k1, k2, k3⟩ := hR.get h3
 obtain ⟨g', hg, rfl, _⟩ := hv
 have hgg : g' = g := by
   rw [at_of_get hρ, k1] at hg
   exact (Option.some.inj hg).symm
 subst hgg
 unfold twoPh at k3
 obtain ⟨x0, r0, e0, q0, k3⟩ := all2_cons k3
 obtain ⟨x1, r1, e1, q1, k3⟩ := all2_cons k3
 obtain ⟨x2, r2, e2, q2, k3⟩ := all2_cons k3
 obtain ⟨x3, r3, e3, q3, k3⟩ := all2_cons k3
 obtain ⟨x4, r4, e4, q4, k3⟩ := all2_cons k3
 obtain ⟨x5, r5, e5, q5, k3⟩ := all2_cons k3
 obtain ⟨y0, r6, e6, p0, k3⟩ := all2_cons k3
 obtain ⟨y1, r7, e7, p1, k3⟩ := all2_cons k3
 obtain ⟨y2, r8, e8, p2, k3⟩ := all2_cons k3
 obtain ⟨y3, r9, e9, p3, k3⟩ := all2_cons k3
 obtain ⟨y4, r10, e10, p4, k3⟩ := all2_cons k3
 obtain ⟨y5, r11, e11, p5, k3⟩ := all2_cons k3
 have harr : arr.toList = [x0, x1, x2, x3, x4, x5, y0, y1, y2, y3, y4, y5] ++ r11 := by rw [e0, e1, e2, e3, e4, e5, e6, e7, e8, e9, e10, e11]; rfl
 have hat : ∀ (k : Nat) x, ([x0, x1, x2, x3, x4, x5, y0, y1, y2, y3, y4, y5] ++ r11)[k]? = some x → w.cell? ⟨g', k, none⟩ = some x := fun k x hk => by rw [cell_at k2, ← Array.getElem?_toList, harr, hk]
 obtain ⟨s1, o1⟩ := own_str hR h1 q4
 obtain ⟨s2, o2⟩ := own_str hR h2 p4
 refine ⟨x4, y4, .inr ⟨_, 2, rfl, Nat.le_refl _, fun i x hi => ?_⟩, rfl⟩
 match i, hi with
 | 0, hi =>
   cases hi
   exact ⟨hat 0 _ (congrArg some q0.1), hat 1 _ (congrArg some q1.1), hat 2 _ (congrArg some q2.1), hat 3 _ (congrArg some q3.1), hat 4 _ rfl, hat 5 _ (congrArg some q5.1), o1, s1, ⟨show 1 < 4294967296 by decide, show 0 < 4294967296 by decide, show 0 < 18446744073709551616 by decide, show (-9223372036854775808 : Int) ≤ 2 by decide, show (2 : Int) < 9223372036854775808 by decide⟩⟩
 | 1, hi =>
   cases hi
   exact ⟨hat 6 _ (congrArg some p0.1), hat 7 _ (congrArg some p1.1), hat 8 _ (congrArg some p2.1), hat 9 _ (congrArg some p3.1), hat 10 _ rfl, hat 11 _ (congrArg some p5.1), o2, s2, ⟨show 1 < 4294967296 by decide, show 1 < 4294967296 by decide, show 0 < 18446744073709551616 by decide, show (-9223372036854775808 : Int) ≤ 0 by decide, show (0 : Int) < 9223372036854775808 by decide⟩⟩
 | i + 2, hi => simp at hi
theorem writeTwoW (w0 : World) {s t : ByteArray} (hs : s.size ≤ 60000) (ht : t.size ≤ 60000) : CallsA Tryz.prog w0 21 [.c (.sli 2 6 0 2 2)] [.cells 9 [.val (.string s)], .cells 9 [.val (.string t)], .cells 57 twoPh] fun r H =>
   r = .t [.c (.val (.string (strOf (encAll [hdPg s, tgPg t])))), .c (.val (.int .i64 ((1 : Nat) : Int)))] ∧ H = [.cells 9 [.val (.string s)], .cells 9 [.val (.string t)], .cells 57 twoPh] := by
 have hok : ∀ x ∈ [(hdPg s, (Value.bool false)), (tgPg t, (Value.bool false))], x.1.okW := by
   intro x hx
   simp only [List.mem_cons, List.not_mem_nil, or_false] at hx
   rcases hx with rfl | rfl
   · exact ok_one (s := s) rfl rfl hs ⟨show (0 : Int) ≤ 2 by decide, show (2 : Int) ≤ 7 by decide⟩
   · exact ok_one (s := t) rfl rfl ht ⟨show (0 : Int) ≤ 0 by decide, show (0 : Int) ≤ 7 by decide⟩
 have hcal := (oggWriteW w0 (v := .slice none 0 0) (xs := []) (.inl ⟨rfl, rfl⟩) (by decide)).cal
 refine callsA_base2 (y := .string (strOf (encAll [hdPg s, tgPg t]))) (z := .int .i64 ((1 : Nat) : Int)) hcal fun ρ w vs hR hA => ?_
 cases hA with
 | cons hv hA =>
   cases hA
   obtain ⟨v1, v2, hpg, hone⟩ := own_ph (s := s) (t := t) hR rfl rfl rfl hv
   refine ⟨[.c (.val _)], .cons ⟨rfl, hone⟩ .nil, (oggWriteW w hpg ?_).mono ?_⟩
   · show 27 + 1 + (s.size + 0) + (27 + 1 + (t.size + 0) + 0) ≤ _
     omega
   · rintro _ _ (⟨_, rfl, rfl⟩ | ⟨⟨x, hx, hno⟩, _, _⟩)
     · exact ⟨rfl, rfl⟩
     · simp only [List.mem_cons, List.not_mem_nil, or_false] at hx
       rcases hx with rfl | rfl
       · exact absurd (hok _ (List.mem_cons_self ..)) hno
       · exact absurd (hok _ (List.mem_cons_of_mem _ (List.mem_cons_self ..))) hno
def mapK (X : List Int) : Prop := 19 ≤ X.length → X.take 8 = opusHead → bt X 18 = 0 ∨ bt X 18 = 1 ∨ bt X 18 = 255
theorem hdB_rate (b : ByteArray) : (hdB b).rate < 4294967296 := by
 have h1 := le_lt (l := ((bytesOf b).take 16).drop 12) fun x hx => byt_bytes b x (List.mem_of_mem_take (List.mem_of_mem_drop hx))
 have h2 : (((bytesOf b).take 16).drop 12).length ≤ 4 := by rw [List.length_drop, List.length_take]; omega
 have h3 : 256 ^ (((bytesOf b).take 16).drop 12).length ≤ 256 ^ 4 := Nat.pow_le_pow_right (by decide) h2
 have h4 : (hdB b).rate = le (((bytesOf b).take 16).drop 12) := by
   unfold hdB hdA
   split <;> rfl
 rw [h4]
 omega
theorem hdR_cases (b : ByteArray) : hdR b = (hd0, false, 2) ∨ (hdR b = (hd0, false, 1) ∧ ¬ okX (bytesOf b) ∧ mapK (bytesOf b)) ∨ (hdR b = (hdB b, true, 1) ∧ (hdB b).text.2 = 1 ∧ okX (bytesOf b) ∧ mapK (bytesOf b)) := by
 have hl := bytesOf_len b
 unfold hdR
 by_cases c1 : b.size < 19 ∨ (bytesOf b).take 8 ≠ opusHead
 · rw [if_pos c1]
   refine .inr (.inl ⟨rfl, fun h => ?_, fun h1 h2 => ?_⟩)
   · rcases c1 with c1 | c1
     · have := h.1; omega
     · exact c1 h.2.1
   · rcases c1 with c1 | c1
     · omega
     · exact absurd h2 c1
 rw [if_neg c1]
 by_cases c2 : bt (bytesOf b) 18 ≠ 0 ∧ b.size < 21 + bt (bytesOf b) 9
 · rw [if_pos c2]
   by_cases c3 : bt (bytesOf b) 18 = 1 ∨ bt (bytesOf b) 18 = 255
   · rw [if_pos c3]
     refine .inr (.inl ⟨rfl, fun h => ?_, fun _ _ => .inr c3⟩)
     rcases h.2.2 with ⟨h1, _⟩ | ⟨_, h1⟩
     · exact c2.1 h1
     · omega
   · rw [if_neg c3]
     exact .inl rfl
 rw [if_neg c2]
 by_cases c4 : (hdB b).text.2 ≠ 1 ∨ (hdB b).text.1 ≠ b ∨ (hdB b).ver ≠ 1
 · rw [if_pos c4]
   exact .inl rfl
 rw [if_neg c4]
 have t2 : (hdB b).text.2 = 1 := Decidable.not_not.1 fun h => c4 (.inl h)
 have t1 : (hdB b).text.1 = b := Decidable.not_not.1 fun h => c4 (.inr (.inl h))
 have hok := Hd.okX t2 (hdB_rate b)
 rw [t1] at hok
 exact .inr (.inr ⟨rfl, t2, hok.1, fun _ _ => hok.2⟩)
theorem hrR_two {b s : ByteArray} {R : List Int} (hb : b.size ≤ 60000) (hs : bytesOf s = pgEnc (hdPg b) ++ R) : hrR s = hdR b := by
 unfold hrR
 rw [pageP_enc (hdPg_good hb) hs]
 have h2 : ¬ ((hdPg b).flags ≠ 2 ∨ (hdPg b).parts.length ≠ 1 ∨ (hdPg b).more = true) := by
   rintro (h | h | h)
   · exact h rfl
   · exact h rfl
   · exact Bool.noConfusion (show false = true from h)
 simp only
 rw [if_neg h2]
 rfl
theorem hdB_fits (b : ByteArray) : ∀ x ∈ [(hdB b).ver, (hdB b).ch, (hdB b).map, (hdB b).skip, (hdB b).gain, (hdB b).str, (hdB b).cou], -9223372036854775808 ≤ x ∧ x < 9223372036854775808 := by
 have hb := byt_bytes b
 have b8 := bt_lt hb 8
 have b9 := bt_lt hb 9
 have b18 := bt_lt hb 18
 have b19 := bt_lt hb 19
 have b20 := bt_lt hb 20
 have l2 : ∀ i j, j ≤ i + 2 → le (((bytesOf b).take j).drop i) < 65536 := by
   intro i j hij
   have h1 := le_lt (l := ((bytesOf b).take j).drop i) fun x hx => hb x (List.mem_of_mem_take (List.mem_of_mem_drop hx))
   have h2 : (((bytesOf b).take j).drop i).length ≤ 2 := by rw [List.length_drop, List.length_take]; omega
   have h3 : 256 ^ (((bytesOf b).take j).drop i).length ≤ 256 ^ 2 := Nat.pow_le_pow_right (by decide) h2
   omega
 have k1 := l2 10 12 (by omega)
 have k2 := l2 16 18 (by omega)
 intro x hx
 unfold hdB hdA at hx
 split at hx
 · simp only [List.mem_cons, List.not_mem_nil, or_false] at hx
   rcases hx with rfl | rfl | rfl | rfl | rfl | rfl | rfl <;> omega
 · simp only [List.mem_cons, List.not_mem_nil, or_false] at hx
   rcases hx with rfl | rfl | rfl | rfl | rfl | rfl | rfl <;> omega
theorem lHeadAnyW {w0 : World} {t : TypeId} {v : Nat → Value} (he : Errs w0 t v) (hp : pows w0) {T : PrT} (hT : T.at w0) {F : Nat → Nat} {A : Nat → Nat × Nat} (ht : UtT w0 F A) (b : ByteArray) :
   CallsA Tryz.prog w0 7 [.c (.val (.string b))] [] fun r H => r = .o (.c (.val (.bool true))) ∧ H = [] := by
 refine callsA_of_ev c7_ ?_
 conv => whnf
 refine Or.inl ?_
 conv => whnf
 refine ⟨fun g1 => ?_, fun g1 => ?_⟩
 · conv => whnf
   exact Or.inr ⟨[], .o (.c (.val (.bool true))), [], ⟨rfl, trivial, rfl⟩, rfl, rfl, rfl⟩
 conv => whnf
 refine Or.inl ?_
 conv => whnf
 refine ⟨fun g2 => ?_, fun g2 => ?_⟩
 · conv => whnf
   exact Or.inr ⟨[], .o (.c (.val (.bool true))), [], ⟨rfl, trivial, rfl⟩, rfl, rfl, rfl⟩
 have g2 : b.size ≤ 500 := gt_f (b := 500) g2
 have hts : tagsS.size = 25 := by unfold tagsS; rw [strOf_siz]; rfl
 have hpg : ∀ p ∈ [hdPg b, tgPg tagsS], p.good := by
   intro p hp
   simp only [List.mem_cons, List.not_mem_nil, or_false] at hp
   rcases hp with rfl | rfl
   · exact hdPg_good (by omega)
   · exact tgPg_good (by omega)
 obtain ⟨hb, hhb⟩ : ∃ hb, hb = strOf (encAll [hdPg b, tgPg tagsS]) := ⟨_, rfl⟩
 have hbb : bytesOf hb = pgEnc (hdPg b) ++ (pgEnc (tgPg tagsS) ++ []) := by rw [hhb]; exact bytes_str (encAll_byt _ hpg)
 have hR : Byt (pgEnc (tgPg tagsS) ++ []) := (pgEnc_byt (hpg _ (List.mem_cons_of_mem _ (List.mem_cons_self ..)))).append fun x hx => (List.not_mem_nil hx).elim
 have hbs : hb.size ≤ 1099511627776 := by
   have hz := encAll_size [hdPg b, tgPg tagsS] hpg
   have hw1 : wts [hdPg b, tgPg tagsS] ≤ 1000 := by
     show 27 + 1 + (b.size + 0) + (27 + 1 + (tagsS.size + 0) + 0) ≤ 1000
     omega
   have hl2 : hb.size = (encAll [hdPg b, tgPg tagsS]).length := by rw [hhb, strOf_siz]
   omega
 have hwr := writeTwoW w0 (s := b) (t := tagsS) (by omega) (by omega)
 rw [← hhb] at hwr
 have hrd := headReadW w0 hbs
 rw [hrR_two (by omega) hbb] at hrd
 conv => whnf
 refine CallsA.liftE (H0 := []) [] rfl trivial rfl (tagsW w0) ?_
 rintro _ _ ⟨rfl, rfl⟩
 refine ⟨.o (.c (.val (.string tagsS))), [.cells 9 [.val (.string b)]], rfl, ⟨rfl, trivial⟩, ?_⟩
 conv => whnf
 refine CallsA.liftE (H0 := [.cells 9 [.val (.string b)], .cells 9 [.val (.string tagsS)], .cells 57 twoPh]) [0, 1, 2] rfl ⟨rfl, rfl, rfl, rfl, rfl, rfl, trivial⟩ rfl hwr ?_
 rintro _ _ ⟨rfl, rfl⟩
 refine ⟨.t [.c (.val (.string hb)), .c (.val (.int .i64 ((1 : Nat) : Int)))], [.cells 9 [.val (.string b)], .cells 9 [.val (.string tagsS)], .cells 57 twoPh], rfl, ⟨rfl, rfl, rfl, trivial⟩, ?_⟩
 conv => whnf
 refine CallsA.liftE (H0 := []) [] rfl trivial rfl hrd ?_
 rintro _ _ ⟨rfl, rfl⟩
 refine ⟨.t [.a ((hdR b).1.cells (.slice none 0 0)), .c (.val (.bool (hdR b).2.1)), .c (.val (.int .i64 ((hdR b).2.2 : Nat)))], [.cells 9 [.val (.string b)], .cells 9 [.val (.string tagsS)], .cells 57 twoPh], rfl, ⟨rfl, rfl, rfl, trivial⟩, ?_⟩
 rcases hdR_cases b with hc | ⟨hc, hno, hmk⟩ | ⟨hc, ht2, hyes, hmk⟩
 · rw [hc]
   conv => whnf
   refine Or.inl ?_
   conv => whnf
   refine ⟨fun g => zF g, fun _ => ?_⟩
   conv => whnf
   refine ⟨fun _ => ?_, fun g => zT g⟩
   conv => whnf
   exact Or.inr ⟨[], .o (.c (.val (.bool true))), [], ⟨rfl, trivial, rfl⟩, rfl, rfl, rfl⟩
 · obtain ⟨g, o1, o2, o3⟩ := opens_hd (X := b) (by omega) hmk hR
   have hoh := iOggHeadW he hbs (g0 := g) (L0 := pgEnc (tgPg tagsS) ++ []) (fun g' rest hg' => by
     rw [hbb] at hg' ⊢
     rw [o1] at hg'
     cases hg'
     exact o3) (by rw [hbb]; exact o1)
   rw [o2] at hoh
   rw [hc]
   conv => whnf
   refine Or.inl ?_
   conv => whnf
   refine ⟨fun g => zF g, fun _ => ?_⟩
   conv => whnf
   refine ⟨fun g => zF g, fun _ => ?_⟩
   conv => whnf
   refine cL0 hoh ?_
   rintro _ _ ⟨rfl, ⟨hy, _⟩ | ⟨_, rfl⟩⟩
   · exact absurd hy hno
   conv => whnf
   refine Or.inl ?_
   conv => whnf
   refine ⟨fun _ => ?_, fun g => zT g⟩
   conv => whnf
   refine ⟨fun _ => ?_, fun g => zT g⟩
   conv => whnf
   refine cL0 (aliveW w0) ?_
   rintro _ _ ⟨rfl, rfl⟩
   conv => whnf
   exact Or.inr ⟨[], .o (.c (.val (.bool true))), [], ⟨rfl, trivial, rfl⟩, rfl, rfl, rfl⟩
 · obtain ⟨g, o1, o2, o3⟩ := opens_hd (X := b) (by omega) hmk hR
   have hoh := iOggHeadW he hbs (g0 := g) (L0 := pgEnc (tgPg tagsS) ++ []) (fun g' rest hg' => by
     rw [hbb] at hg' ⊢
     rw [o1] at hg'
     cases hg'
     exact o3) (by rw [hbb]; exact o1)
   rw [o2, hdX_hdB hyes] at hoh
   have hms := Hd.map_size ht2
   obtain ⟨q, hqs, hq⟩ := quoteE hT ht (s := (hdB b).mapping) (by omega)
   have hht := lawHeadTextW w0 hp (hdB b) (hdB_rate b) (hdB_fits b) (by omega) hq none 0
   rw [hc]
   conv => whnf
   refine Or.inl ?_
   conv => whnf
   refine ⟨fun g => zF g, fun _ => ?_⟩
   conv => whnf
   refine ⟨fun g => zF g, fun _ => ?_⟩
   conv => whnf
   refine CallsA.liftE (H0 := []) [] rfl trivial rfl hoh ?_
   rintro _ _ ⟨rfl, ⟨_, rfl⟩ | ⟨hn, _⟩⟩
   case inr => exact absurd hyes hn
   refine ⟨.t [.a ((hdB b).cells (.slice none 0 0)), .c (.val (.int .i64 ((0 : Nat) : Int)))], [.cells 9 [.val (.string b)], .cells 9 [.val (.string tagsS)], .cells 57 twoPh, .cells 25 ((hdB b).cells (.slice none 0 0))], rfl, ⟨rfl, rfl, rfl, rfl, trivial⟩, ?_⟩
   conv => whnf
   refine Or.inl ?_
   conv => whnf
   refine ⟨fun g => zF g, fun _ => ?_⟩
   conv => whnf
   refine ⟨fun _ => ?_, fun g => zT g⟩
   conv => whnf
   refine CallsA.liftE (H0 := []) [] rfl trivial rfl hht ?_
   rintro _ _ ⟨rfl, rfl⟩
   refine ⟨.o (.c (.val (.string (strOf (numsL (hd8L (hdB b))) ++ strOf (numsL []) ++ q)))), [.cells 9 [.val (.string b)], .cells 9 [.val (.string tagsS)], .cells 57 twoPh, .cells 25 ((hdB b).cells (.slice none 0 0)), .cells 50 ((hdB b).cells (.slice none 0 0))], rfl, ⟨rfl, rfl, rfl, rfl, rfl, trivial⟩, ?_⟩
   conv => whnf
   refine ⟨⟨⟨rfl, rfl⟩, trivial⟩, ?_⟩
   conv => whnf
   refine CallsA.liftE (H0 := []) [] rfl trivial rfl hht ?_
   rintro _ _ ⟨rfl, rfl⟩
   refine ⟨.o (.c (.val (.string (strOf (numsL (hd8L (hdB b))) ++ strOf (numsL []) ++ q)))), [.cells 9 [.val (.string b)], .cells 9 [.val (.string tagsS)], .cells 57 twoPh, .cells 25 ((hdB b).cells (.slice none 0 0)), .cells 50 ((hdB b).cells (.slice none 0 0))], rfl, ⟨rfl, rfl, rfl, rfl, rfl, trivial⟩, ?_⟩
   conv => whnf
   refine ⟨trivial, ?_⟩
   conv => whnf
   refine ⟨fun _ => ?_, fun g => absurd (show ((strOf (numsL (hd8L (hdB b))) ++ strOf (numsL []) ++ q).toList == (strOf (numsL (hd8L (hdB b))) ++ strOf (numsL []) ++ q).toList) = false from g) (by rw [beq_self_eq_true]; decide)⟩
   conv => whnf
   refine cL0 (aliveW w0) ?_
   rintro _ _ ⟨rfl, rfl⟩
   conv => whnf
   refine ⟨trivial, ?_⟩
   conv => whnf
   exact Or.inr ⟨[], .o (.c (.val (.bool true))), [], ⟨rfl, trivial, rfl⟩, rfl, rfl, rfl⟩
end Go.Proofs.YtokkphocaloelaaGreatDoor

end
