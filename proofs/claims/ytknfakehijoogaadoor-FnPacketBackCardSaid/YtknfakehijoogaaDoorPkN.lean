/- The reference writes a packet. -/
import Derived.Test.YtknfakehijoogaaDoorPkM
import Derived.Test.YtknfakehijoogaaDoorPkK
namespace Go.Proofs.YtknfakehijoogaaDoor
open Go Go.Vc
set_option maxRecDepth 100000
set_option maxHeartbeats 8000000

theorem nori {a b : Nat} (ha : a < 4294967296) (hb : b < 4294967296) : IntKind.i64.wrap (((BitVec.ofInt IntKind.i64.bits (a : Int) ||| BitVec.ofInt IntKind.i64.bits (b : Int)).toNat : Nat) : Int) = ((a ||| b : Nat) : Int) := by
  rw [ofInt_nat, ofInt_nat, BitVec.toNat_or, BitVec.toNat_ofNat, BitVec.toNat_ofNat]
  rw [Nat.mod_eq_of_lt (by simp [IntKind.bits]; omega), Nat.mod_eq_of_lt (by simp [IntKind.bits]; omega)]
  exact nwrapi (Nat.lt_trans (Nat.or_lt_two_pow (n := 32) ha hb) (by decide))
theorem strOf_list (l : List Int) : (strOf l).data.toList = l.map fun n => UInt8.ofNat n.toNat := by
  show (List.foldl _ ByteArray.empty l).data.toList = _
  rw [strOf_data]
  rfl
theorem list_add (a b : ByteArray) : (a ++ b).data.toList = a.data.toList ++ b.data.toList := ByteArray.toList_data_append
theorem strOf_8 (n : Nat) : (strOf [IntKind.u8.wrap (n : Int)]).data.toList = [UInt8.ofNat n] := by
  rw [strOf_list]
  show [UInt8.ofNat (IntKind.u8.wrap (n : Int)).toNat] = _
  rw [IntKind.wrap_u8]
  congr 1
  apply UInt8.toNat_inj.1
  rw [UInt8.toNat_ofNat', UInt8.toNat_ofNat']
  omega

theorem lengthTextW (w0 : World) {n : Nat} (hn : n ≤ 1275) : CallsA Tryd.prog w0 19 [.c (.val (.int .i64 n))] [] fun r H => H = [] ∧ ∃ s, r = .o (.c (.val (.string s))) ∧ s.data.toList = lenL n := by
  refine callsA_of_ev c19_ ?_
  conv => whnf
  refine Or.inl ?_
  conv => whnf
  refine ⟨fun h => ?_, fun h => ?_⟩
  · have h : n < 252 := lt_t h
    conv => whnf
    refine ⟨trivial, [IntKind.u8.wrap (n : Int)], ⟨rfl, rfl, rfl⟩, ?_⟩
    conv => whnf
    refine Or.inr ⟨[], .o (.c (.val (.string (strOf [IntKind.u8.wrap (n : Int)])))), [], ⟨rfl, trivial, rfl⟩, rfl, rfl, _, rfl, ?_⟩
    rw [strOf_8]
    unfold lenL
    rw [if_pos h]
  · have h : 252 ≤ n := lt_f h
    conv => whnf
    rw [nandi (by omega) (by omega), show n &&& 3 = n % 4 from nand_mask n 2, nadd, nwrapi (n := 252 + n % 4) (by omega), nsub (a := n) (b := 252 + n % 4) (by omega), nwrapi (n := n - (252 + n % 4)) (by omega)]
    have hq : IntKind.i64.wrap (((n - (252 + n % 4) : Nat) : Int).tdiv ((4 : Nat) : Int)) = ((((n - (252 + n % 4)) / 4 : Nat)) : Int) := by rw [ntdiv, nwrapi (by omega)]
    refine ⟨trivial, [IntKind.u8.wrap ((252 + n % 4 : Nat) : Int), IntKind.u8.wrap (IntKind.i64.wrap (((n - (252 + n % 4) : Nat) : Int).tdiv ((4 : Nat) : Int)))], ⟨rfl, rfl, rfl⟩, ?_⟩
    conv => whnf
    refine Or.inr ⟨[], .o (.c (.val (.string (strOf [IntKind.u8.wrap ((252 + n % 4 : Nat) : Int), IntKind.u8.wrap (IntKind.i64.wrap (((n - (252 + n % 4) : Nat) : Int).tdiv ((4 : Nat) : Int)))])))), [], ⟨rfl, trivial, rfl⟩, rfl, rfl, _, rfl, ?_⟩
    rw [hq, strOf_list]
    unfold lenL
    rw [if_neg (by omega), nwrap8 (n := 252 + n % 4) (by omega), nwrap8 (n := (n - (252 + n % 4)) / 4) (by omega)]
    rfl
theorem lenL_len (n : Nat) : (lenL n).length ≤ 2 := by
  unfold lenL
  split
  · show 1 ≤ 2
    omega
  · exact Nat.le_refl 2
theorem lens_len (l : List Nat) : (l.flatMap lenL).length ≤ 2 * l.length := by
  induction l with
  | nil => exact Nat.le_refl _
  | cons x t ih =>
    rw [List.flatMap_cons, List.length_append, List.length_cons]
    have := lenL_len x
    omega
theorem or4 : ∀ c, c < 32 → ∀ d, d < 4 → c * 8 + d ||| 4 = c * 8 + 4 + d := by decide
theorem or128 : ∀ m, m < 64 → m ||| 128 = m + 128 ∧ m ||| 64 = m + 64 ∧ m + 128 ||| 64 = m + 128 + 64 := by decide
theorem dat_snoc {ss : List ByteArray} {k : Nat} {s : ByteArray} (h : ss[k]? = some s) : dat (ss.take k) ++ s.data.toList = dat (ss.take (k + 1)) := by
  rw [← take_snoc' h]
  unfold dat
  rw [List.flatMap_append]
  congr 1
  exact (List.append_nil _).symm
theorem dat_take {ss : List ByteArray} (h : ∀ s ∈ ss, s.size ≤ 1275) (k : Nat) : (dat (ss.take k)).length ≤ 1275 * ss.length := by
  rw [dat_len]
  refine Nat.le_trans (total_le fun n hn => ?_) ?_
  · obtain ⟨s, hs, rfl⟩ := List.mem_map.1 hn
    exact h s (List.mem_of_mem_take hs)
  · unfold szs
    rw [List.length_map, List.length_take]
    exact Nat.mul_le_mul_left _ (by omega)
theorem lens_snoc {ss : List ByteArray} {k : Nat} {s : ByteArray} (h : ss[k]? = some s) : (((szs ss).take k).flatMap lenL) ++ lenL s.size = ((szs ss).take (k + 1)).flatMap lenL := by
  have h : (szs ss)[k]? = some s.size := by unfold szs; rw [List.getElem?_map, h]; rfl
  rw [← take_snoc' h, List.flatMap_append]
  congr 1
  exact (List.append_nil _).symm
theorem padL_of {pad j : Nat} (h0 : pad ≠ 0) (h1 : 254 * j < pad) (h2 : pad ≤ 254 * j + 254) : List.replicate j 255 ++ [UInt8.ofNat (pad - 254 * j)] = padL pad := by
  unfold padL
  rw [if_neg h0, show (pad - 1) / 254 = j by omega]

theorem szOf {o : ByteArray} {L : List UInt8} (h : o.data.toList = L) : o.size = L.length := by rw [← h, wsize]
def wrR (cfg code pad : Int) (st vbr : Bool) (ss : List ByteArray) (r : AV) (H : List Blk) : Prop :=
  H = [] ∧ (r = .t [.c (.val (.string (ByteArray.mk #[]))), .c (.val (.int .i64 ((2 : Nat) : Int)))] ∨
    ∃ (w : ByteArray) (cN codeN padN : Nat), cfg = cN ∧ code = codeN ∧ pad = padN ∧ fineP cN codeN padN vbr ss ∧ w.data.toList = wrL cN codeN st padN vbr ss ∧ r = .t [.c (.val (.string w)), .c (.val (.int .i64 ((1 : Nat) : Int)))])
theorem packetWriteW (w0 : World) {v : Value} {ss : List ByteArray} (h : strsAt w0 v ss) (hl : ss.length ≤ 9223372036854775807) {cfg code pad : Int} {st vbr : Bool} :
    CallsA Tryd.prog w0 10 [.a (pkArg cfg code pad st vbr v)] [] (wrR cfg code pad st vbr ss) := by
  refine callsA_of_ev c10_ ?_
  conv => whnf
  refine Or.inl ?_
  conv => whnf
  refine CallsA.lift (H0 := []) [] rfl trivial rfl (packetFineW w0 h hl) ?_
  rintro _ _ ⟨rfl, t, rfl, ht⟩
  conv => whnf
  refine ⟨fun _ => ?_, fun g => ?_⟩
  · conv => whnf
    exact Or.inr ⟨[], .t [.c (.val (.string (ByteArray.mk #[]))), .c (.val (.int .i64 ((2 : Nat) : Int)))], [], ⟨rfl, trivial, rfl⟩, rfl, rfl, .inl rfl⟩
  have g : t = true := by
    cases t
    · cases g
    · rfl
  obtain ⟨cN, dN, pN, rfl, rfl, rfl, hf⟩ := ht g
  have hcfg := hf.lcfg
  have hcode := hf.lcode
  have hpad := hf.lpad
  have hlen := hf.len
  have hmost := hf.most
  rcases h with ⟨rfl, h⟩ | ⟨a, c, rfl, hc, hb⟩
  · exact absurd h hf.ne
  have hpos := List.length_pos_iff.2 hf.ne
  obtain ⟨s0, hs0⟩ : ∃ s, ss[0]? = some s := ⟨_, List.getElem?_eq_getElem hpos⟩
  have hs00 : (szs ss).getD 0 0 = s0.size := by
    unfold szs
    rw [List.getD_eq_getElem?_getD, List.getElem?_map, hs0]
    rfl
  have hs0m := hmost s0 (List.mem_of_getElem? hs0)
  have hmidb : (midL dN pN vbr ss).length ≤ 10000 := by
    unfold midL
    split
    · have := lenL_len ((szs ss).getD 0 0)
      omega
    split
    · rw [List.length_cons, List.length_append]
      have h1 : (padL pN).length ≤ 5001 := by
        unfold padL
        split
        · exact Nat.zero_le _
        · rw [List.length_append, List.length_replicate, List.length_singleton]
          omega
      have h2 : (lensL vbr ss).length ≤ 200 := by
        unfold lensL
        split
        · have h3 := lens_len (szs ss).dropLast
          rw [List.length_dropLast] at h3
          have : (szs ss).length = ss.length := List.length_map _
          omega
        · exact Nat.zero_le _
      omega
    · exact Nat.zero_le _
  have e8 : IntKind.i64.wrap (((cN : Nat) : Int) * 2 ^ (min 3 IntKind.i64.bits)) = ((cN * 8 : Nat) : Int) := by
    rw [show (2 : Int) ^ (min 3 IntKind.i64.bits) = ((8 : Nat) : Int) from rfl, nmul, nwrapi (by omega)]
  have eo : cN * 8 ||| dN = cN * 8 + dN := nor_add (i := 3) (by omega)
  have hg1 : hdN cN dN st < 256 := by
    unfold hdN
    split <;> omega
  conv => whnf
  rw [e8, nori (by omega) (by omega), eo]
  refine Or.inr ⟨Unit, fun _ => ⟨[(1, .o (.c (.ptr 0 0))), (4, .o (.c (.val (.int .i64 (hdN cN dN st : Nat)))))], [.cells 31 (pkArg cN dN pN st vbr (.slice (some a) ss.length c))]⟩, ?_, ?_⟩
  · conv => whnf
    refine ⟨fun t1 => ?_, fun t1 => ?_⟩
    · subst t1
      conv => whnf
      refine ⟨(), [0], ⟨rfl, ⟨rfl, rfl, trivial⟩, rfl⟩, rfl, eq_i64 (by rw [nori (by omega) (by omega), or4 cN hcfg dN hcode]; rfl), trivial⟩
    · subst t1
      conv => whnf
      exact ⟨(), [0], ⟨rfl, ⟨rfl, rfl, trivial⟩, rfl⟩, rfl, rfl, trivial⟩
  rintro ⟨⟩
  conv => whnf
  refine ⟨trivial, [IntKind.u8.wrap ((hdN cN dN st : Nat) : Int)], ⟨rfl, rfl, rfl⟩, ?_⟩
  conv => whnf
  have ho1 := strOf_8 (hdN cN dN st)
  obtain ⟨o1, ho⟩ : ∃ o1, o1 = strOf [IntKind.u8.wrap ((hdN cN dN st : Nat) : Int)] := ⟨_, rfl⟩
  rw [← ho] at ho1 ⊢
  refine Or.inr ⟨{o : ByteArray // o.data.toList = UInt8.ofNat (hdN cN dN st) :: midL dN pN vbr ss}, fun ⟨o, _⟩ => ⟨[(1, .o (.c (.ptr 0 0))), (5, .o (.c (.val (.string o))))], [.cells 31 (pkArg cN dN pN st vbr (.slice (some a) ss.length c))]⟩, ?_, ?_⟩
  · conv => whnf
    refine ⟨fun c2 => ?_, fun c2 => ?_⟩
    · have c2 : dN = 2 := beq_t c2
      subst c2
      conv => whnf
      refine ⟨by omega, ?_⟩
      conv => whnf
      refine ⟨_, hb 0 s0 hs0, rfl, ?_⟩
      conv => whnf
      refine CallsA.lift (H0 := []) [] rfl trivial rfl (lengthTextW w0 hs0m) ?_
      rintro _ _ ⟨rfl, s, rfl, hsl⟩
      conv => whnf
      have hz1 := szOf ho1
      have hz2 := szOf hsl
      have hll := lenL_len s0.size
      rw [List.length_singleton] at hz1
      refine ⟨by omega, ?_⟩
      conv => whnf
      refine ⟨⟨o1 ++ s, ?_⟩, [0], ⟨rfl, ⟨rfl, rfl, trivial⟩, rfl⟩, rfl, rfl, trivial⟩
      rw [list_add, ho1, hsl, ← hs00]
      rfl
    have c2 : dN ≠ 2 := beq_f c2
    conv => whnf
    refine ⟨fun c3 => ?_, fun c3 => ?_⟩
    · have c3 : dN = 3 := beq_t c3
      subst c3
      have hmid : midL 3 pN vbr ss = UInt8.ofNat (b1N pN vbr ss.length) :: (padL pN ++ lensL vbr ss) := rfl
      have hb1 := (b1_facts (pad := pN) (vbr := vbr) (n := ss.length) (by omega)).1
      obtain ⟨r1, r2, r3⟩ := or128 ss.length (by omega)
      conv => whnf
      refine Or.inr ⟨Unit, fun _ => ⟨[(1, .o (.c (.ptr 0 0))), (5, .o (.c (.val (.string o1)))), (6, .o (.c (.val (.int .i64 ((ss.length + (if vbr = true then 128 else 0) : Nat) : Int)))))], [.cells 31 (pkArg cN 3 pN st vbr (.slice (some a) ss.length c))]⟩, ?_, ?_⟩
      · conv => whnf
        refine ⟨fun t1 => ?_, fun t1 => ?_⟩
        · subst t1
          conv => whnf
          exact ⟨(), [0], ⟨rfl, ⟨rfl, rfl, trivial⟩, rfl⟩, rfl, rfl, eq_i64 (by rw [nori (by omega) (by omega), r1]; rfl), trivial⟩
        · subst t1
          conv => whnf
          exact ⟨(), [0], ⟨rfl, ⟨rfl, rfl, trivial⟩, rfl⟩, rfl, rfl, rfl, trivial⟩
      rintro ⟨⟩
      conv => whnf
      refine Or.inr ⟨Unit, fun _ => ⟨[(1, .o (.c (.ptr 0 0))), (5, .o (.c (.val (.string o1)))), (6, .o (.c (.val (.int .i64 (b1N pN vbr ss.length : Nat)))))], [.cells 31 (pkArg cN 3 pN st vbr (.slice (some a) ss.length c))]⟩, ?_, ?_⟩
      · conv => whnf
        refine ⟨fun t1 => ?_, fun t1 => ?_⟩
        · have t1 : 0 < pN := gt_t t1
          conv => whnf
          refine ⟨(), [0], ⟨rfl, ⟨rfl, rfl, trivial⟩, rfl⟩, rfl, rfl, eq_i64 ?_, trivial⟩
          unfold b1N
          rw [nori (by split <;> omega) (by omega), if_neg (show pN ≠ 0 by omega)]
          cases vbr
          · exact congrArg _ r2
          · exact congrArg _ r3
        · have t1 : pN ≤ 0 := gt_f t1
          conv => whnf
          refine ⟨(), [0], ⟨rfl, ⟨rfl, rfl, trivial⟩, rfl⟩, rfl, rfl, eq_i64 ?_, trivial⟩
          unfold b1N
          rw [if_pos (show pN = 0 by omega)]
          rfl
      rintro ⟨⟩
      conv => whnf
      refine ⟨trivial, [IntKind.u8.wrap ((b1N pN vbr ss.length : Nat) : Int)], ⟨rfl, rfl, rfl⟩, ?_⟩
      conv => whnf
      have ho2 := strOf_8 (b1N pN vbr ss.length)
      obtain ⟨o2, hoo⟩ : ∃ o2, o2 = strOf [IntKind.u8.wrap ((b1N pN vbr ss.length : Nat) : Int)] := ⟨_, rfl⟩
      rw [← hoo] at ho2 ⊢
      have hz1 := szOf ho1
      have hz2 := szOf ho2
      rw [List.length_singleton] at hz1 hz2
      refine ⟨by omega, ?_⟩
      conv => whnf
      have ho3 : (o1 ++ o2).data.toList = UInt8.ofNat (hdN cN 3 st) :: UInt8.ofNat (b1N pN vbr ss.length) :: [] := by
        rw [list_add, ho1, ho2]
        rfl
      obtain ⟨o3, hoo3⟩ : ∃ o3, o3 = o1 ++ o2 := ⟨_, rfl⟩
      rw [← hoo3] at ho3 ⊢
      refine Or.inr ⟨{o : ByteArray // o.data.toList = UInt8.ofNat (hdN cN 3 st) :: UInt8.ofNat (b1N pN vbr ss.length) :: padL pN ∧ o.size ≤ 10000}, fun ⟨o, _⟩ => ⟨[(1, .o (.c (.ptr 0 0))), (5, .o (.c (.val (.string o))))], [.cells 31 (pkArg cN 3 pN st vbr (.slice (some a) ss.length c))]⟩, ?_, ?_⟩
      · conv => whnf
        refine ⟨fun t1 => ?_, fun t1 => ?_⟩
        · have t1 : 0 < pN := gt_t t1
          conv => whnf
          refine Or.inl ?_
          conv => whnf
          refine ⟨{x : Nat × ByteArray // 254 * x.1 < pN ∧ x.2.data.toList = UInt8.ofNat (hdN cN 3 st) :: UInt8.ofNat (b1N pN vbr ss.length) :: List.replicate x.1 255}, fun ⟨⟨j, o⟩, _⟩ => ⟨[(1, .o (.c (.ptr 0 0))), (5, .o (.c (.val (.string o)))), (7, .o (.c (.val (.int .i64 (pN - 254 * j : Nat)))))], [.cells 31 (pkArg cN 3 pN st vbr (.slice (some a) ss.length c))]⟩, fun x => pN - x.1.1, ⟨⟨(0, o3), by omega, ho3⟩, [0], ⟨rfl, ⟨rfl, rfl, trivial⟩, rfl⟩, rfl, rfl, rfl, trivial⟩, fun ⟨⟨j, o⟩, hj, hoj⟩ => ?_⟩
          simp only at hj hoj
          have hzj := szOf hoj
          rw [List.length_cons, List.length_cons, List.length_replicate] at hzj
          conv => whnf
          refine ⟨fun g5 => ?_, fun g5 => ?_⟩
          · have g5 : 254 < pN - 254 * j := gt_t g5
            conv => whnf
            refine ⟨by show o.size + 1 ≤ 9223372036854775807; omega, ?_⟩
            conv => whnf
            rw [nsub (a := pN - 254 * j) (b := 254) (by omega), nwrapi (n := pN - 254 * j - 254) (by omega)]
            refine ⟨⟨(j + 1, o ++ ByteArray.mk #[255]), by show 254 * (j + 1) < pN; omega, ?_⟩, ⟨[0], ⟨rfl, ⟨rfl, rfl, trivial⟩, rfl⟩, rfl, rfl, eq_i64 ?_, trivial⟩, ?_⟩
            · show (o ++ ByteArray.mk #[255]).data.toList = _
              rw [list_add, hoj, List.replicate_succ']
              rfl
            · rw [show pN - 254 * j - 254 = pN - 254 * (j + 1) by omega]
            · show pN - (j + 1) < pN - j
              omega
          · have g5 : pN - 254 * j ≤ 254 := gt_f g5
            conv => whnf
            refine ⟨trivial, [IntKind.u8.wrap ((pN - 254 * j : Nat) : Int)], ⟨rfl, rfl, rfl⟩, ?_⟩
            conv => whnf
            have ho4 := strOf_8 (pN - 254 * j)
            have hz4 := szOf ho4
            rw [List.length_singleton] at hz4
            refine ⟨by omega, ?_⟩
            conv => whnf
            refine ⟨⟨o ++ strOf [IntKind.u8.wrap ((pN - 254 * j : Nat) : Int)], ?_, ?_⟩, [0], ⟨rfl, ⟨rfl, rfl, trivial⟩, rfl⟩, rfl, rfl, trivial⟩
            · rw [list_add, hoj, ho4, ← padL_of (j := j) (by omega) hj (by omega)]
              rfl
            · rw [ByteArray.size_append]
              omega
        · have t1 : pN ≤ 0 := gt_f t1
          obtain rfl : pN = 0 := by omega
          conv => whnf
          exact ⟨⟨o3, ho3, by rw [szOf ho3]; show 2 ≤ 10000; omega⟩, [0], ⟨rfl, ⟨rfl, rfl, trivial⟩, rfl⟩, rfl, rfl, trivial⟩
      rintro ⟨o, hol, hoz⟩
      conv => whnf
      refine ⟨fun v1 => ?_, fun v1 => ?_⟩
      · subst v1
        conv => whnf
        rw [nsub (a := ss.length) (b := 1) (by omega), nwrapi (n := ss.length - 1) (by omega)]
        refine ⟨by omega, ?_⟩
        conv => whnf
        rw [if_neg (show ¬ c = Int.toNat 0 by show ¬ c = 0; omega)]
        have hsl : (szs ss).length = ss.length := List.length_map _
        refine ⟨{x : Nat × ByteArray // x.1 ≤ ss.length - 1 ∧ x.2.data.toList = UInt8.ofNat (hdN cN 3 st) :: UInt8.ofNat (b1N pN true ss.length) :: (padL pN ++ ((szs ss).take x.1).flatMap lenL)}, fun ⟨⟨k, o⟩, _⟩ => ⟨[(1, .o (.c (.ptr 0 0))), (5, .o (.c (.val (.string o)))), (86, .o (.c (.val (.slice (some (a.add (Int.toNat 0 * 1))) (ss.length - 1) c)))), (87, .o (.c (.val (.int .i64 (ss.length - 1 : Nat))))), (88, .o (.c (.val (.int .i64 k))))], [.cells 31 (pkArg cN 3 pN st true (.slice (some a) ss.length c))]⟩, fun x => ss.length - x.1.1, ⟨⟨(0, o), Nat.zero_le _, by rw [hol]; exact congrArg _ (congrArg _ (List.append_nil _).symm)⟩, [0], ⟨rfl, ⟨rfl, rfl, trivial⟩, rfl⟩, rfl, rfl, rfl, rfl, rfl, trivial⟩, fun ⟨⟨k, o⟩, hk, hok⟩ => ?_⟩
        simp only at hk hok
        have hzk := szOf hok
        have hlk := lens_len ((szs ss).take k)
        have hpl : (padL pN).length ≤ 10000 := by
          have := szOf hol
          rw [List.length_cons, List.length_cons] at this
          omega
        rw [List.length_take] at hlk
        rw [List.length_cons, List.length_cons, List.length_append] at hzk
        conv => whnf
        refine ⟨fun h3 => ?_, fun h3 => ?_⟩
        · have h3 : k < ss.length - 1 := lt_t h3
          obtain ⟨s, hs⟩ : ∃ s, ss[k]? = some s := ⟨_, List.getElem?_eq_getElem (by omega)⟩
          have hsm := hmost s (List.mem_of_getElem? hs)
          conv => whnf
          refine ⟨by omega, ?_⟩
          conv => whnf
          refine ⟨_, hb k s hs, rfl, ?_⟩
          conv => whnf
          refine CallsA.lift (H0 := []) [] rfl trivial rfl (lengthTextW w0 hsm) ?_
          rintro _ _ ⟨rfl, u, rfl, hul⟩
          conv => whnf
          have hzu := szOf hul
          have hll := lenL_len s.size
          refine ⟨by omega, ?_⟩
          conv => whnf
          refine ⟨⟨(k + 1, o ++ u), by show k + 1 ≤ ss.length - 1; omega, ?_⟩, ⟨[0], ⟨rfl, ⟨rfl, rfl, trivial⟩, rfl⟩, rfl, rfl, rfl, rfl, eq_i64 ?_, trivial⟩, ?_⟩
          · show (o ++ u).data.toList = _
            rw [list_add, hok, hul, ← lens_snoc hs]
            show _ :: _ :: (_ ++ _ ++ _) = _ :: _ :: (_ ++ (_ ++ _))
            rw [List.append_assoc]
          · rw [nadd, nwrapi (by omega)]
          · show ss.length - (k + 1) < ss.length - k
            omega
        · have h3 : ss.length - 1 ≤ k := lt_f h3
          obtain rfl : k = ss.length - 1 := by omega
          conv => whnf
          refine ⟨⟨o, ?_⟩, [0], ⟨rfl, ⟨rfl, rfl, trivial⟩, rfl⟩, rfl, rfl, trivial⟩
          rw [hok, hmid]
          unfold lensL
          rw [if_pos rfl, List.dropLast_eq_take, hsl]
      · subst v1
        conv => whnf
        refine ⟨⟨o, ?_⟩, [0], ⟨rfl, ⟨rfl, rfl, trivial⟩, rfl⟩, rfl, rfl, trivial⟩
        rw [hol, hmid]
        show _ = _ :: _ :: (padL pN ++ [])
        rw [List.append_nil]
    · have c3 : dN ≠ 3 := beq_f c3
      conv => whnf
      refine ⟨⟨o1, ?_⟩, [0], ⟨rfl, ⟨rfl, rfl, trivial⟩, rfl⟩, rfl, rfl, trivial⟩
      unfold midL
      rw [if_neg c2, if_neg c3, ho1]
  rintro ⟨o, hol⟩
  have hz := szOf hol
  conv => whnf
  refine Or.inl ?_
  conv => whnf
  have hmb : (midL dN pN vbr ss).length ≤ 10000 := hmidb
  refine ⟨{x : Nat × ByteArray // x.1 ≤ ss.length ∧ x.2.data.toList = UInt8.ofNat (hdN cN dN st) :: (midL dN pN vbr ss ++ dat (ss.take x.1))}, fun ⟨⟨k, o⟩, _⟩ => ⟨[(1, .o (.c (.ptr 0 0))), (5, .o (.c (.val (.string o)))), (99, .o (.c (.val (.slice (some a) ss.length c)))), (100, .o (.c (.val (.int .i64 ss.length)))), (101, .o (.c (.val (.int .i64 k))))], [.cells 31 (pkArg cN dN pN st vbr (.slice (some a) ss.length c))]⟩, fun x => ss.length - x.1.1, ⟨⟨(0, o), Nat.zero_le _, by rw [hol]; exact congrArg _ (List.append_nil _).symm⟩, [0], ⟨rfl, ⟨rfl, rfl, trivial⟩, rfl⟩, rfl, rfl, rfl, rfl, rfl, trivial⟩, fun ⟨⟨k, o⟩, hk, hok⟩ => ?_⟩
  simp only at hk hok
  have hzk := szOf hok
  have hdk := dat_take hmost k
  rw [List.length_cons, List.length_append] at hzk
  conv => whnf
  refine ⟨fun h3 => ?_, fun h3 => ?_⟩
  · have h3 : k < ss.length := lt_t h3
    obtain ⟨s, hs⟩ : ∃ s, ss[k]? = some s := ⟨_, List.getElem?_eq_getElem h3⟩
    have hsm := hmost s (List.mem_of_getElem? hs)
    conv => whnf
    refine ⟨by omega, ?_⟩
    conv => whnf
    refine ⟨_, hb k s hs, rfl, ?_⟩
    conv => whnf
    refine ⟨by omega, ?_⟩
    conv => whnf
    refine ⟨⟨(k + 1, o ++ s), h3, ?_⟩, ⟨[0], ⟨rfl, ⟨rfl, rfl, trivial⟩, rfl⟩, rfl, rfl, rfl, rfl, eq_i64 ?_, trivial⟩, ?_⟩
    · show (o ++ s).data.toList = _
      rw [list_add, hok, List.cons_append, List.append_assoc, dat_snoc hs]
    · rw [nadd, nwrapi (by omega)]
    · show ss.length - (k + 1) < ss.length - k
      omega
  · have h3 : ss.length ≤ k := lt_f h3
    rw [List.take_of_length_le h3] at hok
    conv => whnf
    refine ⟨by omega, ?_⟩
    conv => whnf
    refine ⟨Int, encI .u8, [], 0, fun _ => rfl, rfl, ?_⟩
    conv => whnf
    refine ⟨trivial, List.replicate pN 0, ⟨rfl, by rw [List.length_replicate]; exact Nat.le_refl _, by rw [List.length_replicate]; rfl, by rw [List.take_of_length_le (by rw [List.length_replicate]; exact Nat.le_refl _)]; rfl⟩, ?_⟩
    conv => whnf
    have hlz : (strOf (List.replicate pN 0)).data.toList = List.replicate pN 0 := by
      rw [strOf_list, List.map_replicate]
      rfl
    have hzz := szOf hlz
    rw [List.length_replicate] at hzz
    refine ⟨by omega, ?_⟩
    conv => whnf
    refine Or.inr ⟨[], .t [.c (.val (.string (o ++ strOf (List.replicate pN 0)))), .c (.val (.int .i64 ((1 : Nat) : Int)))], [], ⟨rfl, trivial, rfl⟩, rfl, rfl, .inr ⟨_, cN, dN, pN, rfl, rfl, rfl, hf, ?_, rfl⟩⟩
    rw [list_add, hok, hlz]
    unfold wrL
    rw [List.cons_append, List.append_assoc]
end Go.Proofs.YtknfakehijoogaaDoor
