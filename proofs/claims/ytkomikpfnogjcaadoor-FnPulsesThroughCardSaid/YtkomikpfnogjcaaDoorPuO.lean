/- Whole numbers as texts: FormatInt, the laws' nums. -/
import Derived.Test.YtkomikpfnogjcaaDoorPuN
namespace Go.Proofs.YtkomikpfnogjcaaDoor
open Go Go.Vc
set_option maxRecDepth 100000
set_option maxHeartbeats 8000000

theorem strOf_size' (l : List Int) : (strOf l).size = l.length := by
  have : ∀ (l : List Int) (r : ByteArray), (l.foldl (fun r n => r.push (UInt8.ofNat n.toNat)) r).size = r.size + l.length := by
    intro l
    induction l with
    | nil => intro r; rfl
    | cons x l ih =>
      intro r
      rw [List.foldl_cons, ih, ByteArray.size_push, List.length_cons]
      omega
  rw [strOf, this]
  show 0 + l.length = l.length
  omega
/-- A whole number's text, as a list. -/
def fmtL (x : Int) : List Int :=
  if x < 0 then 45 :: digs (ndig x.natAbs) x.natAbs
  else if x < 10 then digs 1 x.toNat
  else if x < 100 then digs 2 x.toNat
  else digs (ndig x.natAbs) x.natAbs
theorem fmtL_len {x : Int} (h : x.natAbs < 18446744073709551616) : (fmtL x).length ≤ 21 := by
  have := ndig_le h
  unfold fmtL
  split
  · rw [List.length_cons, digs_len]; omega
  split
  · rw [digs_len]; omega
  split
  · rw [digs_len]; omega
  · rw [digs_len]; omega
theorem arr_part (D : List Int) : part (List.replicate 24 0) D 1 0 = 0 :: (D ++ (List.replicate 24 (0 : Int)).drop (1 + D.length)) := rfl
theorem iFmtIntW (w0 : World) (hp : pows w0) {x : Int} (h1 : -9223372036854775808 ≤ x) (h2 : x < 9223372036854775808) : CallsA Tryd.prog w0 49 [.c (.val (.int .i64 x)), .c (.val (.int .i64 ((10 : Nat) : Int)))] [] fun r H => r = .o (.c (.val (.string (strOf (fmtL x))))) ∧ H = [] := by
  refine callsA_of_ev c49_ ?_
  conv => whnf
  refine Or.inl ?_
  conv => whnf
  refine ⟨fun _ => ?_, fun g => absurd g (by decide)⟩
  conv => whnf
  refine Or.inr ⟨{_q : Unit // ¬ (0 ≤ x ∧ x < 100)}, fun _ => ⟨[(0, .o (.c (.val (.int .i64 x))))], []⟩, ?_, ?_⟩
  · have hsm : 0 ≤ x → x < 100 → CallsA Tryd.prog w0 84 [.c (.val (.int .i64 x))] [] fun r H' => r = .o (.c (.val (.string (strOf (fmtL x))))) ∧ H' = [] := by
      intro g1 g2
      have := smallW w0 [] (n := x.toNat) (by omega)
      rw [Int.toNat_of_nonneg g1] at this
      have e : (if x.toNat < 10 then digs 1 x.toNat else digs 2 x.toNat) = fmtL x := by
        unfold fmtL
        rw [if_neg (show ¬ x < 0 by omega)]
        by_cases h : x < 10
        · rw [if_pos (show x.toNat < 10 by omega), if_pos h]
        · rw [if_neg (show ¬ x.toNat < 10 by omega), if_neg h, if_pos g2]
      rw [e] at this
      exact this
    conv => whnf
    refine ⟨fun g => ?_, fun g => ?_⟩
    · have g : (0 : Int) ≤ x := of_decide_eq_true g
      conv => whnf
      refine ⟨fun g2 => ?_, fun g2 => ?_⟩
      · have g2 : x < 100 := of_decide_eq_true g2
        conv => whnf
        refine (hsm g g2).mono ?_
        rintro _ _ ⟨rfl, rfl⟩
        conv => whnf
        exact Or.inl ⟨rfl, rfl⟩
      · have g2 : ¬ x < 100 := of_decide_eq_false g2
        conv => whnf
        exact ⟨⟨(), fun h => g2 h.2⟩, [], ⟨rfl, trivial, rfl⟩, rfl, trivial⟩
    · have g : ¬ (0 : Int) ≤ x := of_decide_eq_false g
      conv => whnf
      exact ⟨⟨(), fun h => g h.1⟩, [], ⟨rfl, trivial, rfl⟩, rfl, trivial⟩
  rintro ⟨⟨⟩, hx⟩
  obtain ⟨u, hu⟩ : ∃ u, u = x.natAbs := ⟨_, rfl⟩
  obtain ⟨nd, hnd⟩ : ∃ nd, nd = ndig u := ⟨_, rfl⟩
  have hu2 : u < 18446744073709551616 := by omega
  have hnd20 : nd ≤ 20 := by rw [hnd]; exact ndig_le hu2
  have hnd1 : 1 ≤ nd := by rw [hnd]; exact ndig_pos (by omega) hu2
  have hun : u < 10 ^ nd := by rw [hnd]; exact lt_ndig hu2
  have hrep : (List.replicate 24 (0 : Int)).length = 24 := List.length_replicate
  have hb10 := base10W w0 (T := 105) (xs := List.replicate 24 0) (o := 1) (n := nd) (c := 23) (u := u) (by omega) hnd20 hu2 hun
  have hdl := digs_len nd u
  conv => whnf
  refine Or.inr ⟨Int, encI .u8, [], 1, List.replicate 24 0, by omega, fun _ => rfl, rfl, by rw [hrep]; omega, ?_⟩
  conv => whnf
  refine Or.inr ⟨Unit, fun _ => ⟨[(0, .o (.c (.val (.int .i64 x)))), (5, .o (.c (.ptr 0 0))), (6, .o (.c (.val (.int .u64 u))))], [arrB 105 (List.replicate 24 0)]⟩, ?_, ?_⟩
  · conv => whnf
    refine ⟨fun g => ?_, fun g => ?_⟩
    · have g : x < 0 := of_decide_eq_true g
      conv => whnf
      refine ⟨(), [0], ⟨rfl, ⟨rfl, rfl, trivial⟩, rfl⟩, rfl, rfl, eq_u64 ?_, trivial⟩
      rw [IntKind.wrap_u64, IntKind.wrap_u64]
      omega
    · have g : ¬ x < 0 := of_decide_eq_false g
      conv => whnf
      refine ⟨(), [0], ⟨rfl, ⟨rfl, rfl, trivial⟩, rfl⟩, rfl, rfl, eq_u64 ?_, trivial⟩
      rw [IntKind.wrap_u64]
      omega
  rintro ⟨⟩
  conv => whnf
  refine (numDigitsW w0 _ hp hu2).mono ?_
  rintro _ _ ⟨rfl, rfl⟩
  rw [← hnd]
  conv => whnf
  rw [nadd 1 nd, nwrapi (n := 1 + nd) (by omega)]
  refine ⟨⟨⟨by omega, by omega, by omega⟩, by omega⟩, ?_⟩
  conv => whnf
  have e1 : ((1 + nd : Nat) : Int).toNat - ((1 : Nat) : Int).toNat = nd := by omega
  rw [e1]
  refine hb10.mono ?_
  rintro _ _ ⟨rfl, rfl⟩
  rw [arr_part]
  conv => whnf
  refine Or.inl ?_
  conv => whnf
  refine ⟨fun g => ?_, fun g => ?_⟩
  · have g : x < 0 := of_decide_eq_true g
    conv => whnf
    refine ⟨by omega, ?_⟩
    conv => whnf
    refine ⟨0, 45, rfl, rfl, ?_⟩
    conv => whnf
    rw [nadd 1 nd, nwrapi (n := 1 + nd) (by omega)]
    refine ⟨⟨⟨by omega, by omega⟩, by omega⟩, Or.inl ?_⟩
    conv => whnf
    refine ⟨trivial, 45 :: digs nd u, ⟨rfl, rfl, ?_, ?_, ?_⟩, ?_⟩
    · show 0 + ((1 + nd : Nat) : Int).toNat ≤ (45 :: (digs nd u ++ (List.replicate 24 (0 : Int)).drop (1 + (digs nd u).length))).length
      rw [List.length_cons, List.length_append]
      omega
    · show (45 :: digs nd u).length = _
      rw [List.length_cons]
      omega
    · show flat (encI .u8) [] _ = flat (encI .u8) [] (List.take ((1 + nd : Nat) : Int).toNat (45 :: (digs nd u ++ (List.replicate 24 (0 : Int)).drop (1 + (digs nd u).length))))
      rw [Int.toNat_natCast, Nat.add_comm, List.take_succ_cons, List.take_append_of_le_length (by omega), List.take_of_length_le (by omega)]
    · conv => whnf
      refine Or.inr ⟨[], .o (.c (.val (.string (strOf (fmtL x))))), [], ⟨rfl, trivial, rfl⟩, ?_, rfl, rfl⟩
      unfold fmtL
      rw [if_pos g, ← hu, ← hnd]
      rfl
  · have g : ¬ x < 0 := of_decide_eq_false g
    conv => whnf
    rw [nadd 1 nd, nwrapi (n := 1 + nd) (by omega)]
    refine ⟨⟨⟨by omega, by omega, by omega⟩, by omega⟩, ?_⟩
    conv => whnf
    rw [e1]
    refine ⟨trivial, digs nd u, ⟨rfl, rfl, ?_, hdl, ?_⟩, ?_⟩
    · show 1 + nd ≤ (0 :: (digs nd u ++ (List.replicate 24 (0 : Int)).drop (1 + (digs nd u).length))).length
      rw [List.length_cons, List.length_append]
      omega
    · show flat (encI .u8) [] _ = flat (encI .u8) [] (List.take nd (digs nd u ++ (List.replicate 24 (0 : Int)).drop (1 + (digs nd u).length)))
      rw [List.take_append_of_le_length (by omega), List.take_of_length_le (by omega)]
    · conv => whnf
      refine Or.inr ⟨[], .o (.c (.val (.string (strOf (fmtL x))))), [], ⟨rfl, trivial, rfl⟩, ?_, rfl, rfl⟩
      unfold fmtL
      rw [if_neg g, if_neg (show ¬ x < 10 by omega), if_neg (show ¬ x < 100 by omega), ← hu, ← hnd]
      rfl
theorem fmtIntW (w0 : World) (hp : pows w0) {x : Int} (h1 : -9223372036854775808 ≤ x) (h2 : x < 9223372036854775808) : CallsA Tryd.prog w0 28 [.c (.val (.int .i64 x)), .c (.val (.int .i64 ((10 : Nat) : Int)))] [] fun r H => r = .o (.c (.val (.string (strOf (fmtL x))))) ∧ H = [] := by
  refine callsA_of_ev c28_ ?_
  conv => whnf
  refine (iFmtIntW w0 hp h1 h2).mono ?_
  rintro _ _ ⟨rfl, rfl⟩
  conv => whnf
  exact Or.inl ⟨rfl, rfl⟩
theorem strOf_fold' (b : List Int) : ∀ r : ByteArray, b.foldl (fun r n => r.push (UInt8.ofNat n.toNat)) r = r ++ strOf b := by
  induction b with
  | nil =>
    intro r
    show r = r ++ ByteArray.empty
    rw [ByteArray.append_empty]
  | cons x t ih =>
    intro r
    show t.foldl _ (r.push _) = r ++ t.foldl _ (ByteArray.empty.push _)
    rw [ih, ih, ← ByteArray.append_assoc]
    congr 1
    apply ByteArray.ext
    simp
theorem strOf_append' (a b : List Int) : strOf (a ++ b) = strOf a ++ strOf b := by
  show (a ++ b).foldl _ ByteArray.empty = _
  rw [List.foldl_append, strOf_fold']
  rfl
def numL (x : Int) : List Int := fmtL x ++ [32]
/-- What the laws' nums writes. -/
def numsL (ys : List Int) : List Int := 91 :: ys.flatMap numL ++ [93]
theorem numL_len : ∀ {l : List Int}, (∀ x ∈ l, x.natAbs < 18446744073709551616) → (l.flatMap numL).length ≤ 22 * l.length
  | [], _ => Nat.zero_le _
  | x :: l, h => by
    have h1 := numL_len (l := l) fun y hy => h y (List.mem_cons_of_mem _ hy)
    have h2 := fmtL_len (x := x) (h x (List.mem_cons_self ..))
    rw [List.flatMap_cons, List.length_append, List.length_cons]
    unfold numL at h1 ⊢
    rw [List.length_append]
    show _ + 1 + _ ≤ _
    omega
theorem numsM (w0 : World) (hp : pows w0) {ys : List Int} {a : Addr} {c : Nat} (hb : ∀ (i : Nat) x, ys[i]? = some x → w0.cell? (a.add (i * 1)) = some (.int .i64 x)) (hl : ys.length ≤ 1099511627776) (hx : ∀ x ∈ ys, -9223372036854775808 ≤ x ∧ x < 9223372036854775808) : CallsA Tryd.prog w0 10 [.c (.val (.slice (some a) ys.length c))] [] fun r H => r = .o (.c (.val (.string (strOf (numsL ys))))) ∧ H = [] := by
  refine callsA_of_ev c10_ ?_
  conv => whnf
  refine Or.inl ?_
  conv => whnf
  refine ⟨_root_.Fin (ys.length + 1), fun ⟨j, _⟩ => ⟨[(3, .o (.c (.val (.string (strOf (91 :: (ys.take j).flatMap numL)))))), (6, .o (.c (.val (.slice (some a) ys.length c)))), (7, .o (.c (.val (.int .i64 ys.length)))), (8, .o (.c (.val (.int .i64 j))))], []⟩, fun j => ys.length - j.1, ⟨⟨0, by omega⟩, [], ⟨rfl, trivial, rfl⟩, rfl, rfl, rfl, rfl, trivial⟩, fun ⟨j, hj⟩ => ?_⟩
  conv => whnf
  refine ⟨fun h3 => ?_, fun h3 => ?_⟩
  · have h3 : j < ys.length := lt_t h3
    obtain ⟨x, hxj⟩ : ∃ x, ys[j]? = some x := ⟨_, List.getElem?_eq_getElem h3⟩
    obtain ⟨hx1, hx2⟩ := hx x (List.mem_of_getElem? hxj)
    have hxn : ∀ y ∈ ys.take j, y.natAbs < 18446744073709551616 := by
      intro y hy
      have := hx y (List.mem_of_mem_take hy)
      omega
    have hsz := numL_len hxn
    have hfl := fmtL_len (x := x) (by omega)
    have hlt : (ys.take j).length ≤ j := by rw [List.length_take]; omega
    conv => whnf
    refine Or.inl ?_
    conv => whnf
    refine ⟨by omega, ?_⟩
    conv => whnf
    refine ⟨_, hb j x hxj, rfl, ?_⟩
    conv => whnf
    refine Or.inr ⟨Unit, fun _ => ⟨[(3, .o (.c (.val (.string (strOf (91 :: (ys.take j).flatMap numL)))))), (5, .o (.c (.val (.int .i64 x)))), (6, .o (.c (.val (.slice (some a) ys.length c)))), (7, .o (.c (.val (.int .i64 ys.length)))), (8, .o (.c (.val (.int .i64 j))))], []⟩, ?_, ?_⟩
    · conv => whnf
      refine ⟨fun g => ?_, fun g => ?_⟩
      · have g : 9223372036854775808 ≤ IntKind.u64.wrap x := of_decide_eq_true g
        rw [IntKind.wrap_u64] at g
        conv => whnf
        refine ⟨fun g2 => absurd (show (0 : Int) < x from of_decide_eq_true g2) (by omega), fun _ => ?_⟩
        conv => whnf
        exact ⟨(), [], ⟨rfl, trivial, rfl⟩, rfl, rfl, rfl, rfl, rfl, trivial⟩
      · conv => whnf
        exact ⟨(), [], ⟨rfl, trivial, rfl⟩, rfl, rfl, rfl, rfl, rfl, trivial⟩
    rintro ⟨⟩
    conv => whnf
    refine (CallsA_frame rfl rfl (fmtIntW w0 hp hx1 hx2) _).mono ?_
    rintro _ _ ⟨rfl, rfl⟩
    conv => whnf
    refine ⟨?_, ?_⟩
    · show (strOf (fmtL x)).size + (ByteArray.mk #[32]).size ≤ 9223372036854775807
      rw [strOf_size']
      show (fmtL x).length + 1 ≤ _
      omega
    conv => whnf
    refine ⟨?_, ?_⟩
    · show (strOf (91 :: (ys.take j).flatMap numL)).size + (strOf (fmtL x) ++ strOf [32]).size ≤ 9223372036854775807
      rw [← strOf_append', strOf_size', strOf_size', List.length_append, List.length_cons]
      show _ + 1 + (_ + 1) ≤ _
      omega
    conv => whnf
    refine ⟨⟨j + 1, by omega⟩, ⟨[], ⟨rfl, trivial, rfl⟩, ?_, rfl, rfl, eq_i64 ?_, trivial⟩, ?_⟩
    · show some (AV.o (.c (.val (.string (strOf (91 :: (ys.take j).flatMap numL) ++ (strOf (fmtL x) ++ strOf [32])))))) = some (AV.o (.c (.val (.string (strOf (91 :: (ys.take (j + 1)).flatMap numL))))))
      rw [← strOf_append', ← strOf_append', List.cons_append, List.take_add_one, hxj]
      rw [show some x = some x from rfl, Option.toList_some, List.flatMap_append, List.flatMap_singleton]
      rfl
    · rw [nadd, nwrapi (by omega)]
    · show ys.length - (j + 1) < ys.length - j
      omega
  · have h3 : ys.length ≤ j := lt_f h3
    rw [List.take_of_length_le h3]
    have hxn : ∀ y ∈ ys, y.natAbs < 18446744073709551616 := by
      intro y hy
      have := hx y hy
      omega
    have hsz := numL_len hxn
    conv => whnf
    refine ⟨?_, ?_⟩
    · show (strOf (91 :: ys.flatMap numL)).size + 1 ≤ 9223372036854775807
      rw [strOf_size', List.length_cons]
      omega
    conv => whnf
    refine Or.inl ⟨?_, rfl⟩
    show AV.o (.c (.val (.string (strOf (91 :: ys.flatMap numL) ++ strOf [93])))) = _
    rw [← strOf_append']
    rfl
theorem numsV (w0 : World) (hp : pows w0) {ys : List Int} (hl : ys.length ≤ 1099511627776) (hx : ∀ x ∈ ys, -9223372036854775808 ≤ x ∧ x < 9223372036854775808) : CallsA Tryd.prog w0 10 [.c (.vec 0 ys.length)] [intB ys] fun r H => r = .o (.c (.val (.string (strOf (numsL ys))))) ∧ H = [intB ys] := by
  refine callsA_of_ev c10_ ?_
  conv => whnf
  refine Or.inl ?_
  conv => whnf
  refine ⟨_root_.Fin (ys.length + 1), fun ⟨j, _⟩ => ⟨[(3, .o (.c (.val (.string (strOf (91 :: (ys.take j).flatMap numL)))))), (6, .o (.c (.vec 0 ys.length))), (7, .o (.c (.val (.int .i64 ys.length)))), (8, .o (.c (.val (.int .i64 j))))], [intB ys]⟩, fun j => ys.length - j.1, ⟨⟨0, by omega⟩, [0], ⟨rfl, ⟨rfl, rfl, trivial⟩, rfl⟩, rfl, rfl, rfl, rfl, trivial⟩, fun ⟨j, hj⟩ => ?_⟩
  conv => whnf
  refine ⟨fun h3 => ?_, fun h3 => ?_⟩
  · have h3 : j < ys.length := lt_t h3
    obtain ⟨x, hxj⟩ : ∃ x, ys[j]? = some x := ⟨_, List.getElem?_eq_getElem h3⟩
    obtain ⟨hx1, hx2⟩ := hx x (List.mem_of_getElem? hxj)
    have hxn : ∀ y ∈ ys.take j, y.natAbs < 18446744073709551616 := by
      intro y hy
      have := hx y (List.mem_of_mem_take hy)
      omega
    have hsz := numL_len hxn
    have hfl := fmtL_len (x := x) (by omega)
    have hlt : (ys.take j).length ≤ j := by rw [List.length_take]; omega
    conv => whnf
    refine Or.inl ?_
    conv => whnf
    refine ⟨by omega, ?_⟩
    conv => whnf
    refine ⟨_, hxj, ?_⟩
    conv => whnf
    refine Or.inr ⟨Unit, fun _ => ⟨[(3, .o (.c (.val (.string (strOf (91 :: (ys.take j).flatMap numL)))))), (5, .o (.c (.val (.int .i64 x)))), (6, .o (.c (.vec 0 ys.length))), (7, .o (.c (.val (.int .i64 ys.length)))), (8, .o (.c (.val (.int .i64 j))))], [intB ys]⟩, ?_, ?_⟩
    · conv => whnf
      refine ⟨fun g => ?_, fun g => ?_⟩
      · have g : 9223372036854775808 ≤ IntKind.u64.wrap x := of_decide_eq_true g
        rw [IntKind.wrap_u64] at g
        conv => whnf
        refine ⟨fun g2 => absurd (show (0 : Int) < x from of_decide_eq_true g2) (by omega), fun _ => ?_⟩
        conv => whnf
        exact ⟨(), [0], ⟨rfl, ⟨rfl, rfl, trivial⟩, rfl⟩, rfl, rfl, rfl, rfl, rfl, trivial⟩
      · conv => whnf
        exact ⟨(), [0], ⟨rfl, ⟨rfl, rfl, trivial⟩, rfl⟩, rfl, rfl, rfl, rfl, rfl, trivial⟩
    rintro ⟨⟩
    conv => whnf
    refine (CallsA_frame rfl rfl (fmtIntW w0 hp hx1 hx2) _).mono ?_
    rintro _ _ ⟨rfl, rfl⟩
    conv => whnf
    refine ⟨?_, ?_⟩
    · show (strOf (fmtL x)).size + (ByteArray.mk #[32]).size ≤ 9223372036854775807
      rw [strOf_size']
      show (fmtL x).length + 1 ≤ _
      omega
    conv => whnf
    refine ⟨?_, ?_⟩
    · show (strOf (91 :: (ys.take j).flatMap numL)).size + (strOf (fmtL x) ++ strOf [32]).size ≤ 9223372036854775807
      rw [← strOf_append', strOf_size', strOf_size', List.length_append, List.length_cons]
      show _ + 1 + (_ + 1) ≤ _
      omega
    conv => whnf
    refine ⟨⟨j + 1, by omega⟩, ⟨[0], ⟨rfl, ⟨rfl, rfl, trivial⟩, rfl⟩, ?_, rfl, rfl, eq_i64 ?_, trivial⟩, ?_⟩
    · show some (AV.o (.c (.val (.string (strOf (91 :: (ys.take j).flatMap numL) ++ (strOf (fmtL x) ++ strOf [32])))))) = some (AV.o (.c (.val (.string (strOf (91 :: (ys.take (j + 1)).flatMap numL))))))
      rw [← strOf_append', ← strOf_append', List.cons_append, List.take_add_one, hxj]
      rw [show some x = some x from rfl, Option.toList_some, List.flatMap_append, List.flatMap_singleton]
      rfl
    · rw [nadd, nwrapi (by omega)]
    · show ys.length - (j + 1) < ys.length - j
      omega
  · have h3 : ys.length ≤ j := lt_f h3
    rw [List.take_of_length_le h3]
    have hxn : ∀ y ∈ ys, y.natAbs < 18446744073709551616 := by
      intro y hy
      have := hx y hy
      omega
    have hsz := numL_len hxn
    conv => whnf
    refine ⟨?_, ?_⟩
    · show (strOf (91 :: ys.flatMap numL)).size + 1 ≤ 9223372036854775807
      rw [strOf_size', List.length_cons]
      omega
    conv => whnf
    refine Or.inl ⟨?_, rfl⟩
    show AV.o (.c (.val (.string (strOf (91 :: ys.flatMap numL) ++ strOf [93])))) = _
    rw [← strOf_append']
    rfl
end Go.Proofs.YtkomikpfnogjcaaDoor
