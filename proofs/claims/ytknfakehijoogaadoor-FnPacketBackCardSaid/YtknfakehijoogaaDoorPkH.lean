/- The package takes a packet apart: the packet, its door, the layer. -/
import Derived.Test.YtknfakehijoogaaDoorPkG
namespace Go.Proofs.YtknfakehijoogaaDoor
open Go Go.Vc
set_option maxRecDepth 100000
set_option maxHeartbeats 8000000

theorem flens_len {b : ByteArray} {e p : Nat} : ∀ {j : Nat} {l : List Nat} {q : Nat}, flens b e p j = some (l, q) → l.length = j
  | 0, l, q, h => by cases h; rfl
  | j + 1, l, q, h => by
    rw [flens_succ] at h
    cases h1 : flens b e p j with
    | none => rw [h1] at h; cases h
    | some x =>
      obtain ⟨l', q'⟩ := x
      rw [h1] at h
      simp only at h
      cases h2 : flen b e q' with
      | none => rw [h2] at h; cases h
      | some y =>
        obtain ⟨n, r⟩ := y
        rw [h2] at h
        cases h
        rw [List.length_append, flens_len h1]
        rfl
theorem pFramesW {w0 : World} (he : errAt w0 1) {b : ByteArray} (h : 1 ≤ b.size) (hs : b.size ≤ 100000) :
    CallsA Tryd.prog w0 22 [.c (.vec 0 b.size), .c (.val (.int .u8 (byt b 0 : Nat)))] [bytB b] (okR b (frames b)) := by
  have h0 := pCode0W he h hs
  have h1 := pCode1W he h hs
  have h2 := pCode2W he h hs
  have h3 := pCode3W he h hs
  have hb0 := byt_lt b 0
  obtain ⟨F, hF⟩ : ∃ F, F = frames b := ⟨_, rfl⟩
  rw [← hF]
  unfold frames at hF
  rw [if_neg (by omega)] at hF
  refine callsA_of_ev c22_ ?_
  conv => whnf
  refine Or.inl ?_
  conv => whnf
  refine ⟨fun c1 => absurd (lt_t c1) (by omega), fun _ => ?_⟩
  conv => whnf
  refine CallsA.lift (H0 := []) [] rfl trivial rfl (tocCodeW w0 (x := byt b 0) hb0) ?_
  rintro _ _ ⟨rfl, rfl⟩
  conv => whnf
  refine ⟨fun c0 => ?_, fun c0 => ?_⟩
  · have c0 : byt b 0 % 4 = 0 := beq_t c0
    rw [if_pos c0] at hF
    conv => whnf
    refine h0.mono ?_
    rintro _ _ (⟨hn, ⟨t, u, rfl⟩, rfl⟩ | ⟨xs, rest, l, hn, hne, hx, rfl, rfl, rfl⟩)
    · conv => whnf
      exact Or.inl (.inl ⟨hF.trans hn, ⟨t, u, rfl⟩, rfl⟩)
    · conv => whnf
      exact Or.inl (.inr ⟨xs, _, l, hF.trans hn, hne, hx, rfl, rfl, rfl⟩)
  have c0 : byt b 0 % 4 ≠ 0 := beq_f c0
  rw [if_neg c0] at hF
  conv => whnf
  refine ⟨fun c1 => ?_, fun c1 => ?_⟩
  · have c1 : byt b 0 % 4 = 1 := beq_t c1
    rw [if_pos c1] at hF
    conv => whnf
    refine h1.mono ?_
    rintro _ _ (⟨hn, ⟨t, u, rfl⟩, rfl⟩ | ⟨xs, rest, l, hn, hne, hx, rfl, rfl, rfl⟩)
    · conv => whnf
      exact Or.inl (.inl ⟨hF.trans hn, ⟨t, u, rfl⟩, rfl⟩)
    · conv => whnf
      exact Or.inl (.inr ⟨xs, _, l, hF.trans hn, hne, hx, rfl, rfl, rfl⟩)
  have c1 : byt b 0 % 4 ≠ 1 := beq_f c1
  rw [if_neg c1] at hF
  conv => whnf
  refine ⟨fun c2 => ?_, fun c2 => ?_⟩
  · have c2 : byt b 0 % 4 = 2 := beq_t c2
    rw [if_pos c2] at hF
    conv => whnf
    refine h2.mono ?_
    rintro _ _ (⟨hn, ⟨t, u, rfl⟩, rfl⟩ | ⟨xs, rest, l, hn, hne, hx, rfl, rfl, rfl⟩)
    · conv => whnf
      exact Or.inl (.inl ⟨hF.trans hn, ⟨t, u, rfl⟩, rfl⟩)
    · conv => whnf
      exact Or.inl (.inr ⟨xs, _, l, hF.trans hn, hne, hx, rfl, rfl, rfl⟩)
  have c2 : byt b 0 % 4 ≠ 2 := beq_f c2
  rw [if_neg c2] at hF
  conv => whnf
  refine ⟨fun _ => ?_, fun c3 => absurd (show byt b 0 % 4 = 3 by omega) (beq_f c3)⟩
  conv => whnf
  refine h3.mono ?_
  rintro _ _ (⟨hn, ⟨t, u, rfl⟩, rfl⟩ | ⟨xs, rest, l, hn, hne, hx, rfl, rfl, rfl⟩)
  · conv => whnf
    exact Or.inl (.inl ⟨hF.trans hn, ⟨t, u, rfl⟩, rfl⟩)
  · conv => whnf
    exact Or.inl (.inr ⟨xs, _, l, hF.trans hn, hne, hx, rfl, rfl, rfl⟩)

theorem oFramesW {w0 : World} (he0 : errAt w0 0) (he : errAt w0 1) {b : ByteArray} (hs : b.size ≤ 100000) :
    CallsA Tryd.prog w0 13 [.c (.vec 0 b.size)] [bytB b] fun r H =>
      (frames b = none ∧ (∃ x1 x2 t u, r = .t [.c (.val (.slice none 0 0)), .c (.val (.int .u8 x1)), .c (.val (.bool x2)), .c (.val (.iface t u))]) ∧ H = [bytB b]) ∨
      ∃ xs l, frames b = some l ∧ xs ≠ [] ∧ rowsAre b xs l ∧ r = .t [.c (.vec 1 xs.length), .c (.val (.int .u8 (byt b 0 / 8 : Nat))), .c (.val (.bool (decide (byt b 0 / 4 % 2 = 1)))), .c (.val .nilIface)] ∧ H = [bytB b, frB xs] := by
  have hfr := fun h => pFramesW he (b := b) h hs
  obtain ⟨te, ue, he0⟩ := he0
  have hb0 := byt_lt b 0
  refine callsA_of_ev c13_ ?_
  conv => whnf
  refine Or.inl ?_
  conv => whnf
  refine ⟨fun c1 => ?_, fun c1 => ?_⟩
  · have c1 : b.size = 0 := beq_t c1
    conv => whnf
    refine ⟨.iface te ue, he0, rfl, ?_⟩
    conv => whnf
    exact Or.inl (.inl ⟨if_pos c1, ⟨_, _, te, ue, rfl⟩, rfl⟩)
  have c1 : b.size ≠ 0 := beq_f c1
  conv => whnf
  refine ⟨by omega, ?_⟩
  conv => whnf
  refine ⟨_, byt_vec (by omega), ?_⟩
  conv => whnf
  refine (hfr (by omega)).mono ?_
  rintro _ _ (⟨hn, ⟨t, u, rfl⟩, rfl⟩ | ⟨xs, rest, l, hn, hne, hx, rfl, rfl, rfl⟩)
  · conv => whnf
    refine CallsA.lift (H0 := []) [] rfl trivial rfl (tocConfigW w0 (x := byt b 0) (by omega)) ?_
    rintro _ _ ⟨rfl, rfl⟩
    conv => whnf
    refine CallsA.lift (H0 := []) [] rfl trivial rfl (tocStereoW w0 (x := byt b 0) (by omega)) ?_
    rintro _ _ ⟨rfl, rfl⟩
    conv => whnf
    exact Or.inl (.inl ⟨hn, ⟨_, _, t, u, rfl⟩, rfl⟩)
  · conv => whnf
    refine CallsA.lift (H0 := []) [] rfl trivial rfl (tocConfigW w0 (x := byt b 0) (by omega)) ?_
    rintro _ _ ⟨rfl, rfl⟩
    conv => whnf
    refine CallsA.lift (H0 := []) [] rfl trivial rfl (tocStereoW w0 (x := byt b 0) (by omega)) ?_
    rintro _ _ ⟨rfl, rfl⟩
    conv => whnf
    exact Or.inl (.inr ⟨xs, l, hn, hne, hx, rfl, rfl⟩)

theorem frames_len {b : ByteArray} {l : List (Nat × Nat)} (h : frames b = some l) : l.length ≤ 200 := by
  unfold frames at h
  split at h
  · cases h
  split at h
  · split at h
    · cases h
    · cases h; show 1 ≤ 200; omega
  split at h
  · split at h
    · cases h
    split at h
    · cases h
    · cases h; show 2 ≤ 200; omega
  split at h
  · split at h
    · cases h
    · split at h
      · cases h
      split at h
      · cases h
      · cases h; show 2 ≤ 200; omega
  split at h
  · cases h
  split at h
  · cases h
  split at h
  · cases h
  split at h
  · cases h
  · rename_i p e hpe
    split at h
    · split at h
      · cases h
      split at h
      · cases h
      · cases h
        unfold evenly
        rw [List.length_map, List.length_range]
        omega
    · split at h
      · cases h
      · rename_i x l' q hf
        split at h
        · cases h
        split at h
        · cases h
        · cases h
          rw [cuts_len, List.length_append, List.length_singleton]
          have := flens_len hf
          omega
/-! The layer: frames as strings -/
def encStr : Enc ByteArray := ⟨fun _ s => [.val (.string s)], fun _ _ _ _ _ _ => rfl⟩
def strB (l : List ByteArray) : Blk := .vec true 9 encStr [] 1 l
def strsOf (b : ByteArray) (l : List (Nat × Nat)) : List ByteArray := l.map fun x => sub b x.1 (x.1 + x.2)
def rdSt (b : ByteArray) (xs : List (Option Fr)) (c : Nat) (s : Bool) (ss : List ByteArray) : Nat → S
  | 0 => ⟨[(2, .o (.c (.ptr 0 0))), (3, .o (.c (.ptr 1 0))), (4, .o (.c (.ptr 2 0))), (5, .o (.c (.ptr 3 0))), (7, .o (.c (.val (.int .u8 c)))), (8, .o (.c (.val (.bool s)))), (23, .o (.c (.vec 5 xs.length))), (24, .o (.c (.val (.int .i64 xs.length)))), (25, .o (.c (.val (.int .i64 ((0 : Nat) : Int)))))],
    [.cells 22 [.val (.slice none 0 0)], .cells 3 [.val (.int .i64 ((0 : Nat) : Int))], .cells 4 [.val (.bool false)], .cells 3 [.val (.int .i64 ((0 : Nat) : Int))], bytB b, .vec true 43 encFr [4] 1 xs]⟩
  | k + 1 => ⟨[(2, .o (.c (.ptr 0 0))), (3, .o (.c (.ptr 1 0))), (4, .o (.c (.ptr 2 0))), (5, .o (.c (.ptr 3 0))), (7, .o (.c (.val (.int .u8 c)))), (8, .o (.c (.val (.bool s)))), (23, .o (.c (.vec 5 xs.length))), (24, .o (.c (.val (.int .i64 xs.length)))), (25, .o (.c (.val (.int .i64 ((k + 1 : Nat) : Int)))))],
    [.cells 22 [.vec 6 (k + 1)], .cells 3 [.val (.int .i64 ((0 : Nat) : Int))], .cells 4 [.val (.bool false)], .cells 3 [.val (.int .i64 ((0 : Nat) : Int))], bytB b, .vec true 43 encFr [4] 1 xs, strB (ss.take (k + 1))]⟩
theorem iPacketReadW {w0 : World} (he0 : errAt w0 0) (he : errAt w0 1) {b : ByteArray} (hs : b.size ≤ 100000) :
    CallsA Tryd.prog w0 6 [.c (.val (.string b))] [] fun r H =>
      (frames b = none ∧ r = .t [.c (.val (.slice none 0 0)), .c (.val (.int .i64 ((0 : Nat) : Int))), .c (.val (.bool false)), .c (.val (.int .i64 ((1 : Nat) : Int)))] ∧ H = []) ∨
      ∃ l, frames b = some l ∧ l ≠ [] ∧ r = .t [.c (.vec 0 l.length), .c (.val (.int .i64 (byt b 0 / 8 : Nat))), .c (.val (.bool (decide (byt b 0 / 4 % 2 = 1)))), .c (.val (.int .i64 ((0 : Nat) : Int)))] ∧ H = [strB (strsOf b l)] := by
  have hb0 := byt_lt b 0
  have hbl : (bytesOf b).length = b.size := by
    unfold bytesOf
    rw [List.length_map, Array.length_toList]
    rfl
  refine callsA_of_evD c6_ ?_
  conv => whnf
  refine ⟨by omega, ?_⟩
  conv => whnf
  rw [hbl]
  refine CallsA.lift (H0 := [bytB b]) [4] rfl ⟨rfl, rfl, trivial⟩ rfl (oFramesW he0 he hs) ?_
  rintro _ _ (⟨hn, ⟨x1, x2, t, u, rfl⟩, rfl⟩ | ⟨xs, l, hn, hne, hx, rfl, rfl⟩)
  · conv => whnf
    refine Or.inl ?_
    conv => whnf
    refine ⟨fun _ => ?_, (fun h => by cases h)⟩
    conv => whnf
    exact Or.inr ⟨[], .t [.c (.val (.slice none 0 0)), .c (.val (.int .i64 ((0 : Nat) : Int))), .c (.val (.bool false)), .c (.val (.int .i64 ((1 : Nat) : Int)))], [], ⟨rfl, trivial, rfl⟩, rfl, .inl ⟨hn, rfl, rfl⟩⟩
  · conv => whnf
    refine Or.inl ?_
    conv => whnf
    refine ⟨(fun h => by cases h), fun _ => ?_⟩
    conv => whnf
    refine Or.inl ?_
    obtain ⟨hxl, hxx⟩ := hx
    have hssl : (strsOf b l).length = l.length := by
      unfold strsOf
      rw [List.length_map]
    have hl200 : xs.length ≤ 200 := by
      rw [hxl]
      exact frames_len hn
    have hlne : l ≠ [] := by
      intro h
      rw [h] at hxl
      exact hne (List.length_eq_zero_iff.1 hxl)
    refine ⟨_root_.Fin (xs.length + 1), fun ⟨k, _⟩ => rdSt b xs (byt b 0 / 8) (decide (byt b 0 / 4 % 2 = 1)) (strsOf b l) k, fun k => xs.length - k.1, ⟨⟨0, by omega⟩, [0, 1, 2, 3, 4, 5], ⟨rfl, ⟨rfl, rfl, rfl, rfl, rfl, rfl, rfl, rfl, rfl, rfl, rfl, rfl, trivial⟩, rfl⟩, rfl, rfl, rfl, rfl, rfl, rfl, rfl, rfl, rfl, trivial⟩, fun ⟨k, hk⟩ => ?_⟩
    cases k with
    | zero =>
      conv => whnf
      refine ⟨fun h3 => ?_, fun h3 => absurd (lt_f h3) (by have := List.length_pos_iff.2 hne; omega)⟩
      have h3 : 0 < xs.length := lt_t h3
      obtain ⟨pn, hpn⟩ : ∃ pn, l[0]? = some pn := ⟨_, List.getElem?_eq_getElem (by omega)⟩
      obtain ⟨p, n⟩ := pn
      obtain ⟨x, hxk, o, m, rfl, hon, hsub, hnm⟩ := hxx 0 p n hpn
      have hss : (strsOf b l)[0]? = some (sub b p (p + n)) := by
        unfold strsOf
        rw [List.getElem?_map, hpn]
        rfl
      have hstr : strOf (((bytesOf b).drop o).take n) = sub b p (p + n) := by rw [strOf_sub hon, hsub]
      conv => whnf
      refine ⟨by omega, ?_⟩
      conv => whnf
      refine ⟨_, hxk, ?_⟩
      conv => whnf
      refine ⟨trivial, ((bytesOf b).drop o).take n, ⟨rfl, rfl, by show o + n ≤ (bytesOf b).length; omega, by rw [List.length_take, List.length_drop]; omega, rfl⟩, ?_⟩
      conv => whnf
      rw [hstr]
      refine ⟨by omega, ByteArray, encStr, [], [sub b p (p + n)], fun _ => rfl, ⟨rfl, rfl, rfl⟩, by simp only [List.length_cons, List.length_nil]; omega, by simp only [List.length_cons, List.length_nil]; omega, ?_⟩
      conv => whnf
      have ht1 : [sub b p (p + n)] = (strsOf b l).take (0 + 1) := by
        have := take_snoc' hss
        rw [List.take_zero, List.nil_append] at this
        exact this
      refine ⟨⟨1, by omega⟩, ⟨[0, 1, 2, 3, 4, 5, 7], ⟨rfl, ⟨rfl, rfl, rfl, rfl, rfl, rfl, rfl, rfl, rfl, rfl, rfl, rfl, ?_, rfl, trivial⟩, rfl⟩, rfl, rfl, rfl, rfl, rfl, rfl, rfl, rfl, eq_i64 ?_, trivial⟩, ?_⟩
      · show some (strB [sub b p (p + n)]) = some (strB ((strsOf b l).take (0 + 1)))
        rw [ht1]
      · rw [nadd, nwrapi (by omega)]
      · show xs.length - 1 < xs.length - 0
        omega
    | succ k =>
      conv => whnf
      refine ⟨fun h3 => ?_, fun h3 => ?_⟩
      · have h3 : k + 1 < xs.length := lt_t h3
        obtain ⟨pn, hpn⟩ : ∃ pn, l[k + 1]? = some pn := ⟨_, List.getElem?_eq_getElem (by omega)⟩
        obtain ⟨p, n⟩ := pn
        obtain ⟨x, hxk, o, m, rfl, hon, hsub, hnm⟩ := hxx (k + 1) p n hpn
        have hss : (strsOf b l)[k + 1]? = some (sub b p (p + n)) := by
          unfold strsOf
          rw [List.getElem?_map, hpn]
          rfl
        have hstr : strOf (((bytesOf b).drop o).take n) = sub b p (p + n) := by rw [strOf_sub hon, hsub]
        conv => whnf
        refine ⟨by omega, ?_⟩
        conv => whnf
        refine ⟨_, hxk, ?_⟩
        conv => whnf
        refine ⟨trivial, ((bytesOf b).drop o).take n, ⟨rfl, rfl, by show o + n ≤ (bytesOf b).length; omega, by rw [List.length_take, List.length_drop]; omega, rfl⟩, ?_⟩
        conv => whnf
        rw [hstr]
        have htl : ((strsOf b l).take (k + 1)).length = k + 1 := by rw [List.length_take]; omega
        have htl2 : ((strsOf b l).take (k + 1) ++ [sub b p (p + n)]).length = k + 2 := by rw [List.length_append, htl]; rfl
        refine ⟨htl.symm, [sub b p (p + n)], ⟨rfl, rfl, rfl⟩, by rw [htl2]; omega, by rw [htl2]; omega, ?_⟩
        conv => whnf
        refine ⟨⟨k + 2, by omega⟩, ⟨[0, 1, 2, 3, 4, 5, 8], ⟨rfl, ⟨?_, rfl, rfl, rfl, rfl, rfl, rfl, rfl, rfl, rfl, rfl, rfl, ?_, rfl, trivial⟩, rfl⟩, rfl, rfl, rfl, rfl, rfl, rfl, rfl, rfl, eq_i64 ?_, trivial⟩, ?_⟩
        · show some (Blk.cells 22 [CV.vec 8 ((strsOf b l).take (k + 1) ++ [sub b p (p + n)]).length]) = some (Blk.cells 22 [CV.vec 8 (k + 1 + 1)])
          rw [htl2]
        · show some (strB ((strsOf b l).take (k + 1) ++ [sub b p (p + n)])) = some (strB ((strsOf b l).take (k + 1 + 1)))
          rw [take_snoc' hss]
        · rw [nadd, nwrapi (by omega)]
        · show xs.length - (k + 2) < xs.length - (k + 1)
          omega
      · have h3 : xs.length ≤ k + 1 := lt_f h3
        have hkl : k + 1 = l.length := by omega
        conv => whnf
        rw [nwrapi (n := byt b 0 / 8) (by omega), List.take_of_length_le (by omega), hkl]
        exact Or.inr ⟨[6], .t [.c (.vec 0 l.length), .c (.val (.int .i64 (byt b 0 / 8 : Nat))), .c (.val (.bool (decide (byt b 0 / 4 % 2 = 1)))), .c (.val (.int .i64 ((0 : Nat) : Int)))], [strB (strsOf b l)], ⟨rfl, ⟨rfl, rfl, trivial⟩, rfl⟩, rfl, .inr ⟨l, hn, hlne, rfl, rfl⟩⟩
end Go.Proofs.YtknfakehijoogaaDoor
