/- Joined: OgZ, PgA, PgB, PgC, PgD, PgE, PgF, PgG, PgH, PgI, PgJ, PgK, PgL, PgM, PgN, PgO. -/
import Derived.Test.YtokkphocaloelaaGreatDoorOD
section
namespace Go.Proofs.YtokkphocaloelaaGreatDoor
open Go Go.Vc
set_option maxRecDepth 100000
set_option maxHeartbeats 8000000

def Pg.okW (p : Pg) : Prop := ¬ p.bad ∧ p.segs.length ≤ 255 ∧ (p.more = true → p.parts ≠ []) ∧ 0 ≤ p.flags ∧ p.flags ≤ 7
theorem Pg.okW.good {p : Pg} (h : p.okW) (h1 : p.ser < 4294967296) (h2 : p.seq < 4294967296) (h3 : p.gran < 18446744073709551616) : p.good := by
 obtain ⟨a, b, c, d, e⟩ := h
 refine ⟨h1, h2, h3, d, e, b, fun hm => ⟨fun hn => c hm (List.map_eq_nil_iff.1 hn), fun x hx => Classical.byContradiction fun hc => a ⟨hm, x, hx, hc⟩⟩⟩
structure Pg.sane (p : Pg) : Prop where
 ser : p.ser < 4294967296
 seq : p.seq < 4294967296
 gran : p.gran < 18446744073709551616
 cnt : p.parts.length ≤ 1099511627776
 siz : psz p.parts ≤ 1099511627776
 sgs : p.segs.length ≤ 1099511627776
theorem psz_pts (l : List ByteArray) : (l.map bytesOf).flatten.length = psz l := by
 induction l with
 | nil => rfl
 | cons x r ih => rw [List.map_cons, List.flatten_cons, List.length_append, ih, bytesOf_len, psz]
theorem pageTextW (w0 : World) {p : Pg} {v : Value} (hv : strsAt w0 v p.parts) (hsan : p.sane) :
   CallsA Tryz.prog w0 45 [.a (pgA p v)] [] fun r H =>
     (p.okW ∧ r = .t [.c (.val (.string (strOf (pgEnc p)))), .c (.val (.bool true))] ∧ H = []) ∨
     (¬ p.okW ∧ r = .t [.c (.val (.string (ByteArray.mk #[]))), .c (.val (.bool false))] ∧ H = []) := by
 have hsg := segmentsW w0 hv hsan.cnt (fun s hs => Nat.le_trans (psz_mem hs) hsan.siz) hsan.sgs
 refine callsA_of_ev c45_ ?_
 obtain ⟨S, hS⟩ : ∃ S, S = lenI p.segs := ⟨_, rfl⟩
 rw [← hS] at hsg
 conv => whnf
 refine cL0 hsg ?_
 rintro _ _ (⟨hb, rfl, rfl⟩ | ⟨hb, b, hbb, rfl, rfl⟩)
 · conv => whnf
   refine Or.inl ?_
   conv => whnf
   refine ⟨fun _ => ?_, fun g => zT g⟩
   conv => whnf
   exact Or.inr ⟨[], .t [.c (.val (.string (ByteArray.mk #[]))), .c (.val (.bool false))], [], ⟨rfl, trivial, rfl⟩, rfl, .inr ⟨fun h => h.1 hb, rfl, rfl⟩⟩
 have w1 : ∀ (h0 : 0 ≤ p.flags) (h7 : p.flags ≤ 7), IntKind.u8.wrap p.flags = p.flags := fun h0 h7 => by rw [IntKind.wrap_u8]; omega
 have w2 : IntKind.u64.wrap ((p.ser : Nat) : Int) = ((p.ser : Nat) : Int) := nwrap64 (by have := hsan.ser; omega)
 have w3 : IntKind.u64.wrap ((p.seq : Nat) : Int) = ((p.seq : Nat) : Int) := nwrap64 (by have := hsan.seq; omega)
 have hoS : (ByteArray.mk #[79, 103, 103, 83, 0]).size = 5 := rfl
 have hfin : some (AV.o (.c (.val (.string (ByteArray.mk #[79, 103, 103, 83, 0] ++ strOf [p.flags] ++ strOf (leL p.gran 8) ++ strOf (leL p.ser 4) ++ strOf (leL p.seq 4)))))) = some (AV.o (.c (.val (.string (strOf (pgHd p)))))) := by
   unfold pgHd
   rw [strOf_add, strOf_add, strOf_add, strOf_add]
   rfl
 cases S with
 | nil =>
   conv => whnf
   refine Or.inl ?_
   conv => whnf
   refine ⟨fun g1 => ?_, fun g1 => ?_⟩
   · have g1 : b = false := by simpa using g1
     conv => whnf
     exact Or.inr ⟨[], .t [.c (.val (.string (ByteArray.mk #[]))), .c (.val (.bool false))], [], ⟨rfl, trivial, rfl⟩, rfl, .inr ⟨fun h => by rw [g1] at hbb; exact Bool.noConfusion (hbb.2 ⟨h.2.1, h.2.2.1⟩), rfl, rfl⟩⟩
   have g1 : b = true := by simpa using g1
   conv => whnf
   refine ⟨fun g2 => ?_, fun g2 => ?_⟩
   · have g2 : p.flags < 0 := of_decide_eq_true g2
     conv => whnf
     exact Or.inr ⟨[], .t [.c (.val (.string (ByteArray.mk #[]))), .c (.val (.bool false))], [], ⟨rfl, trivial, rfl⟩, rfl, .inr ⟨fun h => absurd h.2.2.2.1 (by omega), rfl, rfl⟩⟩
   have g2 : ¬ p.flags < 0 := of_decide_eq_false g2
   conv => whnf
   refine ⟨fun g3 => ?_, fun g3 => ?_⟩
   · have g3 : p.flags > 7 := of_decide_eq_true g3
     conv => whnf
     exact Or.inr ⟨[], .t [.c (.val (.string (ByteArray.mk #[]))), .c (.val (.bool false))], [], ⟨rfl, trivial, rfl⟩, rfl, .inr ⟨fun h => absurd h.2.2.2.2 (by omega), rfl, rfl⟩⟩
   have g3 : ¬ p.flags > 7 := of_decide_eq_false g3
   have hok : p.okW := ⟨hb, (hbb.1 g1).1, (hbb.1 g1).2, by omega, by omega⟩
   have hgood := hok.good hsan.ser hsan.seq hsan.gran
   have hcnt := hgood.cnt
   have w1 := w1 (by omega) (by omega)
   conv => whnf
   -- []: S as a pattern, [0]: renaming, ⟨rfl, ⟨rfl, rfl, trivial⟩, rfl⟩ its proof for H, rfl the second string's source
   refine Or.inr ⟨Unit, fun _ => ⟨[(1, .o (.c (.ptr 0 0))), (4, .o (.c (szV 1 []))), (6, .o (.c (.val (.string (strOf (pgHd p))))))], .cells 57 (pgA p v) :: szH []⟩, ?_, fun _ => ?_⟩
   · conv => whnf
     rw [w1, w2, w3]
     refine ⟨?_, ?_⟩
     · conv => whnf
       refine ⟨?_, ?_⟩
       · conv => whnf
         repeat' (first | exact trivial | exact ⟨rfl, rfl⟩ | exact ⟨trivial, [p.flags], ⟨rfl, rfl, rfl⟩, rfl, rfl⟩ | refine ⟨?_, ?_⟩)
       conv => whnf
       refine ⟨trivial, [p.flags], ⟨rfl, rfl, rfl⟩, ?_⟩
       conv => whnf
       refine ⟨?_, ?_⟩
       · simp only [strOf_siz, List.length_cons, List.length_nil, hoS]
         decide
       conv => whnf
       refine cL0 (leastW w0 p.gran (size := 8) (by decide)) ?_
       rintro _ _ ⟨rfl, rfl⟩
       refine ⟨?_, ?_⟩
       · conv => whnf
         repeat' (first | exact trivial | exact ⟨rfl, rfl⟩ | exact ⟨trivial, [p.flags], ⟨rfl, rfl, rfl⟩, rfl, rfl⟩ | refine ⟨?_, ?_⟩)
       conv => whnf
       refine ⟨?_, ?_⟩
       · simp only [ByteArray.size_append, strOf_siz, leL_len, List.length_cons, List.length_nil, hoS]
         decide
       conv => whnf
       refine cL0 (leastW w0 p.ser (size := 4) (by decide)) ?_
       rintro _ _ ⟨rfl, rfl⟩
       refine ⟨?_, ?_⟩
       · conv => whnf
         repeat' (first | exact trivial | exact ⟨rfl, rfl⟩ | exact ⟨trivial, [p.flags], ⟨rfl, rfl, rfl⟩, rfl, rfl⟩ | refine ⟨?_, ?_⟩)
       conv => whnf
       refine ⟨?_, ?_⟩
       · simp only [ByteArray.size_append, strOf_siz, leL_len, List.length_cons, List.length_nil, hoS]
         decide
       conv => whnf
       refine cL0 (leastW w0 p.seq (size := 4) (by decide)) ?_
       rintro _ _ ⟨rfl, rfl⟩
       refine ⟨?_, ?_⟩
       · conv => whnf
         repeat' (first | exact trivial | exact ⟨rfl, rfl⟩ | exact ⟨trivial, [p.flags], ⟨rfl, rfl, rfl⟩, rfl, rfl⟩ | refine ⟨?_, ?_⟩)
       conv => whnf
       refine ⟨?_, ?_⟩
       · simp only [ByteArray.size_append, strOf_siz, leL_len, List.length_cons, List.length_nil, hoS]
         decide
       conv => whnf
       exact ⟨(), [0], ⟨rfl, ⟨rfl, rfl, trivial⟩, rfl⟩, rfl, rfl, hfin, trivial⟩
     · conv => whnf
       refine cL0 (leastW w0 p.gran (size := 8) (by decide)) ?_
       rintro _ _ ⟨rfl, rfl⟩
       refine ⟨?_, ?_⟩
       · conv => whnf
         repeat' (first | exact trivial | exact ⟨rfl, rfl⟩ | exact ⟨trivial, [p.flags], ⟨rfl, rfl, rfl⟩, rfl, rfl⟩ | refine ⟨?_, ?_⟩)
       conv => whnf
       refine ⟨?_, ?_⟩
       · conv => whnf
         refine ⟨?_, ?_⟩
         · conv => whnf
           repeat' (first | exact trivial | exact ⟨rfl, rfl⟩ | exact ⟨trivial, [p.flags], ⟨rfl, rfl, rfl⟩, rfl, rfl⟩ | refine ⟨?_, ?_⟩)
         conv => whnf
         refine ⟨trivial, [p.flags], ⟨rfl, rfl, rfl⟩, ?_⟩
         conv => whnf
         refine ⟨?_, ?_⟩
         · simp only [strOf_siz, List.length_cons, List.length_nil, hoS]
           decide
         conv => whnf
         refine ⟨?_, ?_⟩
         · simp only [ByteArray.size_append, strOf_siz, leL_len, List.length_cons, List.length_nil, hoS]
           decide
         conv => whnf
         refine cL0 (leastW w0 p.ser (size := 4) (by decide)) ?_
         rintro _ _ ⟨rfl, rfl⟩
         refine ⟨?_, ?_⟩
         · conv => whnf
           repeat' (first | exact trivial | exact ⟨rfl, rfl⟩ | exact ⟨trivial, [p.flags], ⟨rfl, rfl, rfl⟩, rfl, rfl⟩ | refine ⟨?_, ?_⟩)
         conv => whnf
         refine ⟨?_, ?_⟩
         · simp only [ByteArray.size_append, strOf_siz, leL_len, List.length_cons, List.length_nil, hoS]
           decide
         conv => whnf
         refine cL0 (leastW w0 p.seq (size := 4) (by decide)) ?_
         rintro _ _ ⟨rfl, rfl⟩
         refine ⟨?_, ?_⟩
         · conv => whnf
           repeat' (first | exact trivial | exact ⟨rfl, rfl⟩ | exact ⟨trivial, [p.flags], ⟨rfl, rfl, rfl⟩, rfl, rfl⟩ | refine ⟨?_, ?_⟩)
         conv => whnf
         refine ⟨?_, ?_⟩
         · simp only [ByteArray.size_append, strOf_siz, leL_len, List.length_cons, List.length_nil, hoS]
           decide
         conv => whnf
         exact ⟨(), [0], ⟨rfl, ⟨rfl, rfl, trivial⟩, rfl⟩, rfl, rfl, hfin, trivial⟩
       · conv => whnf
         refine cL0 (leastW w0 p.ser (size := 4) (by decide)) ?_
         rintro _ _ ⟨rfl, rfl⟩
         refine ⟨?_, ?_⟩
         · conv => whnf
           repeat' (first | exact trivial | exact ⟨rfl, rfl⟩ | exact ⟨trivial, [p.flags], ⟨rfl, rfl, rfl⟩, rfl, rfl⟩ | refine ⟨?_, ?_⟩)
         conv => whnf
         refine ⟨?_, ?_⟩
         · conv => whnf
           refine ⟨?_, ?_⟩
           · conv => whnf
             repeat' (first | exact trivial | exact ⟨rfl, rfl⟩ | exact ⟨trivial, [p.flags], ⟨rfl, rfl, rfl⟩, rfl, rfl⟩ | refine ⟨?_, ?_⟩)
           conv => whnf
           refine ⟨trivial, [p.flags], ⟨rfl, rfl, rfl⟩, ?_⟩
           conv => whnf
           refine ⟨?_, ?_⟩
           · simp only [strOf_siz, List.length_cons, List.length_nil, hoS]
             decide
           conv => whnf
           refine ⟨?_, ?_⟩
           · simp only [ByteArray.size_append, strOf_siz, leL_len, List.length_cons, List.length_nil, hoS]
             decide
           conv => whnf
           refine ⟨?_, ?_⟩
           · simp only [ByteArray.size_append, strOf_siz, leL_len, List.length_cons, List.length_nil, hoS]
             decide
           conv => whnf
           refine cL0 (leastW w0 p.seq (size := 4) (by decide)) ?_
           rintro _ _ ⟨rfl, rfl⟩
           refine ⟨?_, ?_⟩
           · conv => whnf
             repeat' (first | exact trivial | exact ⟨rfl, rfl⟩ | exact ⟨trivial, [p.flags], ⟨rfl, rfl, rfl⟩, rfl, rfl⟩ | refine ⟨?_, ?_⟩)
           conv => whnf
           refine ⟨?_, ?_⟩
           · simp only [ByteArray.size_append, strOf_siz, leL_len, List.length_cons, List.length_nil, hoS]
             decide
           conv => whnf
           exact ⟨(), [0], ⟨rfl, ⟨rfl, rfl, trivial⟩, rfl⟩, rfl, rfl, hfin, trivial⟩
         · conv => whnf
           refine cL0 (leastW w0 p.seq (size := 4) (by decide)) ?_
           rintro _ _ ⟨rfl, rfl⟩
           refine ⟨?_, ?_⟩
           · conv => whnf
             repeat' (first | exact trivial | exact ⟨rfl, rfl⟩ | exact ⟨trivial, [p.flags], ⟨rfl, rfl, rfl⟩, rfl, rfl⟩ | refine ⟨?_, ?_⟩)
           conv => whnf
           refine ⟨?_, ?_⟩
           · conv => whnf
             repeat' (first | exact trivial | exact ⟨rfl, rfl⟩ | exact ⟨trivial, [p.flags], ⟨rfl, rfl, rfl⟩, rfl, rfl⟩ | refine ⟨?_, ?_⟩)
           conv => whnf
           refine ⟨trivial, [p.flags], ⟨rfl, rfl, rfl⟩, ?_⟩
           conv => whnf
           refine ⟨?_, ?_⟩
           · simp only [strOf_siz, List.length_cons, List.length_nil, hoS]
             decide
           conv => whnf
           refine ⟨?_, ?_⟩
           · simp only [ByteArray.size_append, strOf_siz, leL_len, List.length_cons, List.length_nil, hoS]
             decide
           conv => whnf
           refine ⟨?_, ?_⟩
           · simp only [ByteArray.size_append, strOf_siz, leL_len, List.length_cons, List.length_nil, hoS]
             decide
           conv => whnf
           refine ⟨?_, ?_⟩
           · simp only [ByteArray.size_append, strOf_siz, leL_len, List.length_cons, List.length_nil, hoS]
             decide
           conv => whnf
           exact ⟨(), [0], ⟨rfl, ⟨rfl, rfl, trivial⟩, rfl⟩, rfl, rfl, hfin, trivial⟩
   have hSl : ([] : List Int).length = p.segs.length := by
     rw [hS]
     unfold lenI
     rw [List.length_map]
   have w4 : IntKind.u8.wrap ((([] : List Int).length : Nat) : Int) = ((([] : List Int).length : Nat) : Int) := nwrap8 (by omega)
   conv => whnf
   refine ⟨trivial, [IntKind.u8.wrap ((([] : List Int).length : Nat) : Int)], ⟨rfl, rfl, rfl⟩, ?_⟩
   conv => whnf
   refine ⟨trivial, [], rfl, ?_⟩
   conv => whnf
   refine ⟨by rw [strOf_siz, strOf_siz]; simp only [List.length_cons, List.length_nil] at hSl ⊢; omega, ?_⟩
   conv => whnf
   have hX0 : strOf [IntKind.u8.wrap ((([] : List Int).length : Nat) : Int)] ++ strOf [] = strOf (([((([] : List Int).length : Nat) : Int)] ++ []) ++ (p.pts.take 0).flatten) := by
     rw [w4, ← strOf_add]
     exact congrArg strOf (List.append_nil _).symm
   rw [hX0]
   refine Or.inr ⟨Unit, fun _ => ⟨[(1, .o (.c (.ptr 0 0))), (6, .o (.c (.val (.string (strOf (pgHd p)))))), (7, .o (.c (.val (.string (strOf (([((([] : List Int).length : Nat) : Int)] ++ []) ++ p.pts.flatten))))))], [.cells 57 (pgA p v)]⟩, ?_, fun _ => ?_⟩
   · rcases hv with ⟨rfl, hp⟩ | ⟨a, c, rfl, hc, hb⟩
     · conv => whnf
       refine ⟨Unit, fun _ => ⟨[(1, .o (.c (.ptr 0 0))), (6, .o (.c (.val (.string (strOf (pgHd p)))))), (7, .o (.c (.val (.string (strOf (([((([] : List Int).length : Nat) : Int)] ++ []) ++ (p.pts.take 0).flatten)))))), (57, .o (.c (.val (.int .i64 ((0 : Nat) : Int))))), (58, .o (.c (.val (.int .i64 ((0 : Nat) : Int)))))], [.cells 57 (pgA p (.slice none 0 0))]⟩, fun _ => 0, ⟨(), [0], ⟨rfl, ⟨rfl, rfl, trivial⟩, rfl⟩, rfl, rfl, rfl, rfl, rfl, trivial⟩, fun _ => ?_⟩
       conv => whnf
       refine ⟨fun g => zF g, fun _ => ?_⟩
       conv => whnf
       refine ⟨(), [0], ⟨rfl, ⟨rfl, rfl, trivial⟩, rfl⟩, rfl, rfl, ?_, trivial⟩
       have hpn : p.pts = [] := by unfold Pg.pts; rw [hp]; rfl
       rw [hpn]
       rfl
     · conv => whnf
       refine ⟨{j : Nat // j ≤ p.parts.length}, fun ⟨j, _⟩ => ⟨[(1, .o (.c (.ptr 0 0))), (6, .o (.c (.val (.string (strOf (pgHd p)))))), (7, .o (.c (.val (.string (strOf (([((([] : List Int).length : Nat) : Int)] ++ []) ++ (p.pts.take j).flatten)))))), (56, .o (.c (.val (.slice (some a) p.parts.length c)))), (57, .o (.c (.val (.int .i64 (p.parts.length : Nat))))), (58, .o (.c (.val (.int .i64 (j : Nat)))))], [.cells 57 (pgA p (.slice (some a) p.parts.length c))]⟩, fun j => p.parts.length - j.1, ⟨⟨0, Nat.zero_le _⟩, [0], ⟨rfl, ⟨rfl, rfl, trivial⟩, rfl⟩, rfl, rfl, rfl, rfl, rfl, rfl, trivial⟩, fun ⟨j, hj⟩ => ?_⟩
       conv => whnf
       refine ⟨fun g => ?_, fun g => ?_⟩
       · have g : j < p.parts.length := lt_t g
         obtain ⟨s, hsx⟩ : ∃ s, p.parts[j]? = some s := ⟨_, List.getElem?_eq_getElem g⟩
         have hpt : p.pts[j]? = some (bytesOf s) := by unfold Pg.pts; rw [List.getElem?_map, hsx]; rfl
         have hss : s.size ≤ psz p.parts := psz_mem (List.mem_of_getElem? hsx)
         have hfl : (p.pts.take (j + 1)).flatten = (p.pts.take j).flatten ++ bytesOf s := by
           rw [List.take_add_one, hpt, List.flatten_append]
           simp
         have hfz : (p.pts.take j).flatten.length ≤ psz p.parts := by
           have h1 : p.pts.flatten.length = psz p.parts := psz_pts p.parts
           have h2 : p.pts.flatten = (p.pts.take j).flatten ++ (p.pts.drop j).flatten := by rw [← List.flatten_append, List.take_append_drop]
           rw [h2, List.length_append] at h1
           omega
         conv => whnf
         refine ⟨⟨Int.natCast_nonneg j, Int.ofNat_lt.2 g⟩, ?_⟩
         conv => whnf
         refine ⟨.string s, ?_⟩
         conv => whnf
         refine ⟨hb j s hsx, ?_⟩
         conv => whnf
         refine ⟨rfl, ?_⟩
         conv => whnf
         refine ⟨by rw [strOf_siz, List.length_append]; have := hsan.siz; simp only [List.length_append, List.length_cons, List.length_nil] at hSl ⊢; omega, ?_⟩
         conv => whnf
         refine ⟨⟨j + 1, g⟩, ⟨[0], ⟨rfl, ⟨rfl, rfl, trivial⟩, rfl⟩, rfl, rfl, ?_, rfl, rfl, eq_i64 (by rw [nadd, nwrapi (by have := hsan.cnt; omega)]), trivial⟩, by show p.parts.length - (j + 1) < p.parts.length - j; omega⟩
         show some (AV.o (.c (.val (.string (strOf (([((([] : List Int).length : Nat) : Int)] ++ []) ++ (p.pts.take j).flatten) ++ s))))) = some (AV.o (.c (.val (.string (strOf (([((([] : List Int).length : Nat) : Int)] ++ []) ++ (p.pts.take (j + 1)).flatten))))))
         rw [hfl, ← List.append_assoc, strOf_add _ (bytesOf s), str_bytes]
       · have g : p.parts.length ≤ j := lt_f g
         have hall : p.pts.take j = p.pts := List.take_of_length_le (by unfold Pg.pts; rw [List.length_map]; exact g)
         conv => whnf
         rw [hall]
         exact ⟨(), [0], ⟨rfl, ⟨rfl, rfl, trivial⟩, rfl⟩, rfl, rfl, rfl, trivial⟩
   have hT : strOf (([((([] : List Int).length : Nat) : Int)] ++ []) ++ p.pts.flatten) = strOf (pgTl p) := by
     unfold pgTl
     rw [hS, show ((lenI p.segs).length : Nat) = p.segs.length from by unfold lenI; rw [List.length_map]]
   rw [hT]
   have hfz : p.pts.flatten.length ≤ 1099511627776 := by
     have h1 : p.pts.flatten.length = psz p.parts := psz_pts p.parts
     have := hsan.siz
     omega
   have hTl : (pgTl p).length ≤ 1099511627776 + 256 := by
     unfold pgTl lenI
     simp only [List.length_append, List.length_cons, List.length_nil, List.length_map]
     omega
   conv => whnf
   refine ⟨by rw [strOf_siz, pgHd_len]; decide, ?_⟩
   conv => whnf
   refine ⟨by rw [ByteArray.size_append, strOf_siz, strOf_siz, pgHd_len, show (ByteArray.mk #[0, 0, 0, 0]).size = 4 from rfl]; omega, ?_⟩
   conv => whnf
   have hsum : crcS (bytesOf (strOf (pgHd p) ++ ByteArray.mk #[0, 0, 0, 0] ++ strOf (pgTl p))) = pgSum p := by
     rw [bytes_add, bytes_add, bytes_str (pgHd_byt hgood), bytes_str (pgTl_byt hgood)]
     rfl
   have hsl := pgSum_lt hgood
   refine cL0 (oggSumW w0 (b := strOf (pgHd p) ++ ByteArray.mk #[0, 0, 0, 0] ++ strOf (pgTl p)) (by rw [ByteArray.size_append, ByteArray.size_append, strOf_siz, strOf_siz, pgHd_len, show (ByteArray.mk #[0, 0, 0, 0]).size = 4 from rfl]; omega)) ?_
   rw [hsum]
   rintro _ _ ⟨rfl, rfl⟩
   conv => whnf
   rw [nwrap64 (n := pgSum p) (by omega)]
   refine cL0 (leastW w0 (pgSum p) (size := 4) (by decide)) ?_
   rintro _ _ ⟨rfl, rfl⟩
   conv => whnf
   refine ⟨by rw [strOf_siz, strOf_siz, pgHd_len, leL_len]; decide, ?_⟩
   conv => whnf
   refine ⟨by rw [ByteArray.size_append, strOf_siz, strOf_siz, strOf_siz, pgHd_len, leL_len]; omega, ?_⟩
   conv => whnf
   rw [show strOf (pgHd p) ++ strOf (leL (pgSum p) 4) ++ strOf (pgTl p) = strOf (pgEnc p) by rw [← strOf_add, ← strOf_add]; rfl]
   exact Or.inr ⟨[], .t [.c (.val (.string (strOf (pgEnc p)))), .c (.val (.bool true))], [], ⟨rfl, trivial, rfl⟩, rfl, .inl ⟨hok, rfl, rfl⟩⟩
 | cons s0 sr =>
   conv => whnf
   refine Or.inl ?_
   conv => whnf
   refine ⟨fun g1 => ?_, fun g1 => ?_⟩
   · have g1 : b = false := by simpa using g1
     conv => whnf
     exact Or.inr ⟨[], .t [.c (.val (.string (ByteArray.mk #[]))), .c (.val (.bool false))], [], ⟨rfl, trivial, rfl⟩, rfl, .inr ⟨fun h => by rw [g1] at hbb; exact Bool.noConfusion (hbb.2 ⟨h.2.1, h.2.2.1⟩), rfl, rfl⟩⟩
   have g1 : b = true := by simpa using g1
   conv => whnf
   refine ⟨fun g2 => ?_, fun g2 => ?_⟩
   · have g2 : p.flags < 0 := of_decide_eq_true g2
     conv => whnf
     exact Or.inr ⟨[], .t [.c (.val (.string (ByteArray.mk #[]))), .c (.val (.bool false))], [], ⟨rfl, trivial, rfl⟩, rfl, .inr ⟨fun h => absurd h.2.2.2.1 (by omega), rfl, rfl⟩⟩
   have g2 : ¬ p.flags < 0 := of_decide_eq_false g2
   conv => whnf
   refine ⟨fun g3 => ?_, fun g3 => ?_⟩
   · have g3 : p.flags > 7 := of_decide_eq_true g3
     conv => whnf
     exact Or.inr ⟨[], .t [.c (.val (.string (ByteArray.mk #[]))), .c (.val (.bool false))], [], ⟨rfl, trivial, rfl⟩, rfl, .inr ⟨fun h => absurd h.2.2.2.2 (by omega), rfl, rfl⟩⟩
   have g3 : ¬ p.flags > 7 := of_decide_eq_false g3
   have hok : p.okW := ⟨hb, (hbb.1 g1).1, (hbb.1 g1).2, by omega, by omega⟩
   have hgood := hok.good hsan.ser hsan.seq hsan.gran
   have hcnt := hgood.cnt
   have w1 := w1 (by omega) (by omega)
   conv => whnf
   -- (s0 :: sr): S as a pattern, [0, 1]: renaming, ⟨rfl, ⟨rfl, rfl, rfl, rfl, trivial⟩, rfl⟩ its proof for H, ⟨rfl, Nat.le_refl _, rfl, by rw [List.take_of_length_le (Nat.le_refl _)]⟩ the second string's source
   refine Or.inr ⟨Unit, fun _ => ⟨[(1, .o (.c (.ptr 0 0))), (4, .o (.c (szV 1 (s0 :: sr)))), (6, .o (.c (.val (.string (strOf (pgHd p))))))], .cells 57 (pgA p v) :: szH (s0 :: sr)⟩, ?_, fun _ => ?_⟩
   · conv => whnf
     rw [w1, w2, w3]
     refine ⟨?_, ?_⟩
     · conv => whnf
       refine ⟨?_, ?_⟩
       · conv => whnf
         repeat' (first | exact trivial | exact ⟨rfl, rfl⟩ | exact ⟨trivial, [p.flags], ⟨rfl, rfl, rfl⟩, rfl, rfl⟩ | refine ⟨?_, ?_⟩)
       conv => whnf
       refine ⟨trivial, [p.flags], ⟨rfl, rfl, rfl⟩, ?_⟩
       conv => whnf
       refine ⟨?_, ?_⟩
       · simp only [strOf_siz, List.length_cons, List.length_nil, hoS]
         decide
       conv => whnf
       refine cL0 (leastW w0 p.gran (size := 8) (by decide)) ?_
       rintro _ _ ⟨rfl, rfl⟩
       refine ⟨?_, ?_⟩
       · conv => whnf
         repeat' (first | exact trivial | exact ⟨rfl, rfl⟩ | exact ⟨trivial, [p.flags], ⟨rfl, rfl, rfl⟩, rfl, rfl⟩ | refine ⟨?_, ?_⟩)
       conv => whnf
       refine ⟨?_, ?_⟩
       · simp only [ByteArray.size_append, strOf_siz, leL_len, List.length_cons, List.length_nil, hoS]
         decide
       conv => whnf
       refine cL0 (leastW w0 p.ser (size := 4) (by decide)) ?_
       rintro _ _ ⟨rfl, rfl⟩
       refine ⟨?_, ?_⟩
       · conv => whnf
         repeat' (first | exact trivial | exact ⟨rfl, rfl⟩ | exact ⟨trivial, [p.flags], ⟨rfl, rfl, rfl⟩, rfl, rfl⟩ | refine ⟨?_, ?_⟩)
       conv => whnf
       refine ⟨?_, ?_⟩
       · simp only [ByteArray.size_append, strOf_siz, leL_len, List.length_cons, List.length_nil, hoS]
         decide
       conv => whnf
       refine cL0 (leastW w0 p.seq (size := 4) (by decide)) ?_
       rintro _ _ ⟨rfl, rfl⟩
       refine ⟨?_, ?_⟩
       · conv => whnf
         repeat' (first | exact trivial | exact ⟨rfl, rfl⟩ | exact ⟨trivial, [p.flags], ⟨rfl, rfl, rfl⟩, rfl, rfl⟩ | refine ⟨?_, ?_⟩)
       conv => whnf
       refine ⟨?_, ?_⟩
       · simp only [ByteArray.size_append, strOf_siz, leL_len, List.length_cons, List.length_nil, hoS]
         decide
       conv => whnf
       exact ⟨(), [0, 1], ⟨rfl, ⟨rfl, rfl, rfl, rfl, trivial⟩, rfl⟩, rfl, rfl, hfin, trivial⟩
     · conv => whnf
       refine cL0 (leastW w0 p.gran (size := 8) (by decide)) ?_
       rintro _ _ ⟨rfl, rfl⟩
       refine ⟨?_, ?_⟩
       · conv => whnf
         repeat' (first | exact trivial | exact ⟨rfl, rfl⟩ | exact ⟨trivial, [p.flags], ⟨rfl, rfl, rfl⟩, rfl, rfl⟩ | refine ⟨?_, ?_⟩)
       conv => whnf
       refine ⟨?_, ?_⟩
       · conv => whnf
         refine ⟨?_, ?_⟩
         · conv => whnf
           repeat' (first | exact trivial | exact ⟨rfl, rfl⟩ | exact ⟨trivial, [p.flags], ⟨rfl, rfl, rfl⟩, rfl, rfl⟩ | refine ⟨?_, ?_⟩)
         conv => whnf
         refine ⟨trivial, [p.flags], ⟨rfl, rfl, rfl⟩, ?_⟩
         conv => whnf
         refine ⟨?_, ?_⟩
         · simp only [strOf_siz, List.length_cons, List.length_nil, hoS]
           decide
         conv => whnf
         refine ⟨?_, ?_⟩
         · simp only [ByteArray.size_append, strOf_siz, leL_len, List.length_cons, List.length_nil, hoS]
           decide
         conv => whnf
         refine cL0 (leastW w0 p.ser (size := 4) (by decide)) ?_
         rintro _ _ ⟨rfl, rfl⟩
         refine ⟨?_, ?_⟩
         · conv => whnf
           repeat' (first | exact trivial | exact ⟨rfl, rfl⟩ | exact ⟨trivial, [p.flags], ⟨rfl, rfl, rfl⟩, rfl, rfl⟩ | refine ⟨?_, ?_⟩)
         conv => whnf
         refine ⟨?_, ?_⟩
         · simp only [ByteArray.size_append, strOf_siz, leL_len, List.length_cons, List.length_nil, hoS]
           decide
         conv => whnf
         refine cL0 (leastW w0 p.seq (size := 4) (by decide)) ?_
         rintro _ _ ⟨rfl, rfl⟩
         refine ⟨?_, ?_⟩
         · conv => whnf
           repeat' (first | exact trivial | exact ⟨rfl, rfl⟩ | exact ⟨trivial, [p.flags], ⟨rfl, rfl, rfl⟩, rfl, rfl⟩ | refine ⟨?_, ?_⟩)
         conv => whnf
         refine ⟨?_, ?_⟩
         · simp only [ByteArray.size_append, strOf_siz, leL_len, List.length_cons, List.length_nil, hoS]
           decide
         conv => whnf
         exact ⟨(), [0, 1], ⟨rfl, ⟨rfl, rfl, rfl, rfl, trivial⟩, rfl⟩, rfl, rfl, hfin, trivial⟩
       · conv => whnf
         refine cL0 (leastW w0 p.ser (size := 4) (by decide)) ?_
         rintro _ _ ⟨rfl, rfl⟩
         refine ⟨?_, ?_⟩
         · conv => whnf
           repeat' (first | exact trivial | exact ⟨rfl, rfl⟩ | exact ⟨trivial, [p.flags], ⟨rfl, rfl, rfl⟩, rfl, rfl⟩ | refine ⟨?_, ?_⟩)
         conv => whnf
         refine ⟨?_, ?_⟩
         · conv => whnf
           refine ⟨?_, ?_⟩
           · conv => whnf
             repeat' (first | exact trivial | exact ⟨rfl, rfl⟩ | exact ⟨trivial, [p.flags], ⟨rfl, rfl, rfl⟩, rfl, rfl⟩ | refine ⟨?_, ?_⟩)
           conv => whnf
           refine ⟨trivial, [p.flags], ⟨rfl, rfl, rfl⟩, ?_⟩
           conv => whnf
           refine ⟨?_, ?_⟩
           · simp only [strOf_siz, List.length_cons, List.length_nil, hoS]
             decide
           conv => whnf
           refine ⟨?_, ?_⟩
           · simp only [ByteArray.size_append, strOf_siz, leL_len, List.length_cons, List.length_nil, hoS]
             decide
           conv => whnf
           refine ⟨?_, ?_⟩
           · simp only [ByteArray.size_append, strOf_siz, leL_len, List.length_cons, List.length_nil, hoS]
             decide
           conv => whnf
           refine cL0 (leastW w0 p.seq (size := 4) (by decide)) ?_
           rintro _ _ ⟨rfl, rfl⟩
           refine ⟨?_, ?_⟩
           · conv => whnf
             repeat' (first | exact trivial | exact ⟨rfl, rfl⟩ | exact ⟨trivial, [p.flags], ⟨rfl, rfl, rfl⟩, rfl, rfl⟩ | refine ⟨?_, ?_⟩)
           conv => whnf
           refine ⟨?_, ?_⟩
           · simp only [ByteArray.size_append, strOf_siz, leL_len, List.length_cons, List.length_nil, hoS]
             decide
           conv => whnf
           exact ⟨(), [0, 1], ⟨rfl, ⟨rfl, rfl, rfl, rfl, trivial⟩, rfl⟩, rfl, rfl, hfin, trivial⟩
         · conv => whnf
           refine cL0 (leastW w0 p.seq (size := 4) (by decide)) ?_
           rintro _ _ ⟨rfl, rfl⟩
           refine ⟨?_, ?_⟩
           · conv => whnf
             repeat' (first | exact trivial | exact ⟨rfl, rfl⟩ | exact ⟨trivial, [p.flags], ⟨rfl, rfl, rfl⟩, rfl, rfl⟩ | refine ⟨?_, ?_⟩)
           conv => whnf
           refine ⟨?_, ?_⟩
           · conv => whnf
             repeat' (first | exact trivial | exact ⟨rfl, rfl⟩ | exact ⟨trivial, [p.flags], ⟨rfl, rfl, rfl⟩, rfl, rfl⟩ | refine ⟨?_, ?_⟩)
           conv => whnf
           refine ⟨trivial, [p.flags], ⟨rfl, rfl, rfl⟩, ?_⟩
           conv => whnf
           refine ⟨?_, ?_⟩
           · simp only [strOf_siz, List.length_cons, List.length_nil, hoS]
             decide
           conv => whnf
           refine ⟨?_, ?_⟩
           · simp only [ByteArray.size_append, strOf_siz, leL_len, List.length_cons, List.length_nil, hoS]
             decide
           conv => whnf
           refine ⟨?_, ?_⟩
           · simp only [ByteArray.size_append, strOf_siz, leL_len, List.length_cons, List.length_nil, hoS]
             decide
           conv => whnf
           refine ⟨?_, ?_⟩
           · simp only [ByteArray.size_append, strOf_siz, leL_len, List.length_cons, List.length_nil, hoS]
             decide
           conv => whnf
           exact ⟨(), [0, 1], ⟨rfl, ⟨rfl, rfl, rfl, rfl, trivial⟩, rfl⟩, rfl, rfl, hfin, trivial⟩
   have hSl : ((s0 :: sr) : List Int).length = p.segs.length := by
     rw [hS]
     unfold lenI
     rw [List.length_map]
   have w4 : IntKind.u8.wrap ((((s0 :: sr) : List Int).length : Nat) : Int) = ((((s0 :: sr) : List Int).length : Nat) : Int) := nwrap8 (by omega)
   conv => whnf
   refine ⟨trivial, [IntKind.u8.wrap ((((s0 :: sr) : List Int).length : Nat) : Int)], ⟨rfl, rfl, rfl⟩, ?_⟩
   conv => whnf
   refine ⟨trivial, (s0 :: sr), ⟨rfl, Nat.le_refl _, rfl, by rw [List.take_of_length_le (Nat.le_refl _)]⟩, ?_⟩
   conv => whnf
   refine ⟨by rw [strOf_siz, strOf_siz]; simp only [List.length_cons, List.length_nil] at hSl ⊢; omega, ?_⟩
   conv => whnf
   have hX0 : strOf [IntKind.u8.wrap ((((s0 :: sr) : List Int).length : Nat) : Int)] ++ strOf (s0 :: sr) = strOf (([((((s0 :: sr) : List Int).length : Nat) : Int)] ++ (s0 :: sr)) ++ (p.pts.take 0).flatten) := by
     rw [w4, ← strOf_add]
     exact congrArg strOf (List.append_nil _).symm
   rw [hX0]
   refine Or.inr ⟨Unit, fun _ => ⟨[(1, .o (.c (.ptr 0 0))), (6, .o (.c (.val (.string (strOf (pgHd p)))))), (7, .o (.c (.val (.string (strOf (([((((s0 :: sr) : List Int).length : Nat) : Int)] ++ (s0 :: sr)) ++ p.pts.flatten))))))], [.cells 57 (pgA p v)]⟩, ?_, fun _ => ?_⟩
   · rcases hv with ⟨rfl, hp⟩ | ⟨a, c, rfl, hc, hb⟩
     · conv => whnf
       refine ⟨Unit, fun _ => ⟨[(1, .o (.c (.ptr 0 0))), (6, .o (.c (.val (.string (strOf (pgHd p)))))), (7, .o (.c (.val (.string (strOf (([((((s0 :: sr) : List Int).length : Nat) : Int)] ++ (s0 :: sr)) ++ (p.pts.take 0).flatten)))))), (57, .o (.c (.val (.int .i64 ((0 : Nat) : Int))))), (58, .o (.c (.val (.int .i64 ((0 : Nat) : Int)))))], [.cells 57 (pgA p (.slice none 0 0))]⟩, fun _ => 0, ⟨(), [0], ⟨rfl, ⟨rfl, rfl, trivial⟩, rfl⟩, rfl, rfl, rfl, rfl, rfl, trivial⟩, fun _ => ?_⟩
       conv => whnf
       refine ⟨fun g => zF g, fun _ => ?_⟩
       conv => whnf
       refine ⟨(), [0], ⟨rfl, ⟨rfl, rfl, trivial⟩, rfl⟩, rfl, rfl, ?_, trivial⟩
       have hpn : p.pts = [] := by unfold Pg.pts; rw [hp]; rfl
       rw [hpn]
       rfl
     · conv => whnf
       refine ⟨{j : Nat // j ≤ p.parts.length}, fun ⟨j, _⟩ => ⟨[(1, .o (.c (.ptr 0 0))), (6, .o (.c (.val (.string (strOf (pgHd p)))))), (7, .o (.c (.val (.string (strOf (([((((s0 :: sr) : List Int).length : Nat) : Int)] ++ (s0 :: sr)) ++ (p.pts.take j).flatten)))))), (56, .o (.c (.val (.slice (some a) p.parts.length c)))), (57, .o (.c (.val (.int .i64 (p.parts.length : Nat))))), (58, .o (.c (.val (.int .i64 (j : Nat)))))], [.cells 57 (pgA p (.slice (some a) p.parts.length c))]⟩, fun j => p.parts.length - j.1, ⟨⟨0, Nat.zero_le _⟩, [0], ⟨rfl, ⟨rfl, rfl, trivial⟩, rfl⟩, rfl, rfl, rfl, rfl, rfl, rfl, trivial⟩, fun ⟨j, hj⟩ => ?_⟩
       conv => whnf
       refine ⟨fun g => ?_, fun g => ?_⟩
       · have g : j < p.parts.length := lt_t g
         obtain ⟨s, hsx⟩ : ∃ s, p.parts[j]? = some s := ⟨_, List.getElem?_eq_getElem g⟩
         have hpt : p.pts[j]? = some (bytesOf s) := by unfold Pg.pts; rw [List.getElem?_map, hsx]; rfl
         have hss : s.size ≤ psz p.parts := psz_mem (List.mem_of_getElem? hsx)
         have hfl : (p.pts.take (j + 1)).flatten = (p.pts.take j).flatten ++ bytesOf s := by
           rw [List.take_add_one, hpt, List.flatten_append]
           simp
         have hfz : (p.pts.take j).flatten.length ≤ psz p.parts := by
           have h1 : p.pts.flatten.length = psz p.parts := psz_pts p.parts
           have h2 : p.pts.flatten = (p.pts.take j).flatten ++ (p.pts.drop j).flatten := by rw [← List.flatten_append, List.take_append_drop]
           rw [h2, List.length_append] at h1
           omega
         conv => whnf
         refine ⟨⟨Int.natCast_nonneg j, Int.ofNat_lt.2 g⟩, ?_⟩
         conv => whnf
         refine ⟨.string s, ?_⟩
         conv => whnf
         refine ⟨hb j s hsx, ?_⟩
         conv => whnf
         refine ⟨rfl, ?_⟩
         conv => whnf
         refine ⟨by rw [strOf_siz, List.length_append]; have := hsan.siz; simp only [List.length_append, List.length_cons, List.length_nil] at hSl ⊢; omega, ?_⟩
         conv => whnf
         refine ⟨⟨j + 1, g⟩, ⟨[0], ⟨rfl, ⟨rfl, rfl, trivial⟩, rfl⟩, rfl, rfl, ?_, rfl, rfl, eq_i64 (by rw [nadd, nwrapi (by have := hsan.cnt; omega)]), trivial⟩, by show p.parts.length - (j + 1) < p.parts.length - j; omega⟩
         show some (AV.o (.c (.val (.string (strOf (([((((s0 :: sr) : List Int).length : Nat) : Int)] ++ (s0 :: sr)) ++ (p.pts.take j).flatten) ++ s))))) = some (AV.o (.c (.val (.string (strOf (([((((s0 :: sr) : List Int).length : Nat) : Int)] ++ (s0 :: sr)) ++ (p.pts.take (j + 1)).flatten))))))
         rw [hfl, ← List.append_assoc, strOf_add _ (bytesOf s), str_bytes]
       · have g : p.parts.length ≤ j := lt_f g
         have hall : p.pts.take j = p.pts := List.take_of_length_le (by unfold Pg.pts; rw [List.length_map]; exact g)
         conv => whnf
         rw [hall]
         exact ⟨(), [0], ⟨rfl, ⟨rfl, rfl, trivial⟩, rfl⟩, rfl, rfl, rfl, trivial⟩
   have hT : strOf (([((((s0 :: sr) : List Int).length : Nat) : Int)] ++ (s0 :: sr)) ++ p.pts.flatten) = strOf (pgTl p) := by
     unfold pgTl
     rw [hS, show ((lenI p.segs).length : Nat) = p.segs.length from by unfold lenI; rw [List.length_map]]
   rw [hT]
   have hfz : p.pts.flatten.length ≤ 1099511627776 := by
     have h1 : p.pts.flatten.length = psz p.parts := psz_pts p.parts
     have := hsan.siz
     omega
   have hTl : (pgTl p).length ≤ 1099511627776 + 256 := by
     unfold pgTl lenI
     simp only [List.length_append, List.length_cons, List.length_nil, List.length_map]
     omega
   conv => whnf
   refine ⟨by rw [strOf_siz, pgHd_len]; decide, ?_⟩
   conv => whnf
   refine ⟨by rw [ByteArray.size_append, strOf_siz, strOf_siz, pgHd_len, show (ByteArray.mk #[0, 0, 0, 0]).size = 4 from rfl]; omega, ?_⟩
   conv => whnf
   have hsum : crcS (bytesOf (strOf (pgHd p) ++ ByteArray.mk #[0, 0, 0, 0] ++ strOf (pgTl p))) = pgSum p := by
     rw [bytes_add, bytes_add, bytes_str (pgHd_byt hgood), bytes_str (pgTl_byt hgood)]
     rfl
   have hsl := pgSum_lt hgood
   refine cL0 (oggSumW w0 (b := strOf (pgHd p) ++ ByteArray.mk #[0, 0, 0, 0] ++ strOf (pgTl p)) (by rw [ByteArray.size_append, ByteArray.size_append, strOf_siz, strOf_siz, pgHd_len, show (ByteArray.mk #[0, 0, 0, 0]).size = 4 from rfl]; omega)) ?_
   rw [hsum]
   rintro _ _ ⟨rfl, rfl⟩
   conv => whnf
   rw [nwrap64 (n := pgSum p) (by omega)]
   refine cL0 (leastW w0 (pgSum p) (size := 4) (by decide)) ?_
   rintro _ _ ⟨rfl, rfl⟩
   conv => whnf
   refine ⟨by rw [strOf_siz, strOf_siz, pgHd_len, leL_len]; decide, ?_⟩
   conv => whnf
   refine ⟨by rw [ByteArray.size_append, strOf_siz, strOf_siz, strOf_siz, pgHd_len, leL_len]; omega, ?_⟩
   conv => whnf
   rw [show strOf (pgHd p) ++ strOf (leL (pgSum p) 4) ++ strOf (pgTl p) = strOf (pgEnc p) by rw [← strOf_add, ← strOf_add]; rfl]
   exact Or.inr ⟨[], .t [.c (.val (.string (strOf (pgEnc p)))), .c (.val (.bool true))], [], ⟨rfl, trivial, rfl⟩, rfl, .inl ⟨hok, rfl, rfl⟩⟩
end Go.Proofs.YtokkphocaloelaaGreatDoor

end
section
namespace Go.Proofs.YtokkphocaloelaaGreatDoor
open Go Go.Vc
set_option maxRecDepth 100000
set_option maxHeartbeats 8000000

structure pgCells (w0 : World) (b : Addr) (p : Pg) (v : Value) : Prop where
 c0 : w0.cell? (b.add 0) = some (.int .u32 (p.ser : Nat))
 c1 : w0.cell? (b.add 1) = some (.int .u32 (p.seq : Nat))
 c2 : w0.cell? (b.add 2) = some (.int .u64 (p.gran : Nat))
 c3 : w0.cell? (b.add 3) = some (.int .i64 p.flags)
 c4 : w0.cell? (b.add 4) = some v
 c5 : w0.cell? (b.add 5) = some (.bool p.more)
 one : v.oneCell' = true
 str : strsAt w0 v p.parts
 fit : p.ser < 4294967296 ∧ p.seq < 4294967296 ∧ p.gran < 18446744073709551616 ∧ -9223372036854775808 ≤ p.flags ∧ p.flags < 9223372036854775808
def pgsAt (w0 : World) (v : Value) (xs : List (Pg × Value)) : Prop :=
 (v = .slice none 0 0 ∧ xs = []) ∨ ∃ a c, v = .slice (some a) xs.length c ∧ xs.length ≤ c ∧ ∀ (i : Nat) x, xs[i]? = some x → pgCells w0 (a.add (i * 6)) x.1 x.2
def wtx (xs : List (Pg × Value)) : Nat := wts (xs.map Prod.fst)
theorem wts_mem {l : List Pg} {p : Pg} (h : p ∈ l) : p.wt ≤ wts l := by
 induction l with
 | nil => cases h
 | cons x r ih =>
   rcases List.mem_cons.1 h with rfl | h
   · exact Nat.le_add_right _ _
   · exact Nat.le_trans (ih h) (Nat.le_add_left _ _)
theorem wts_len (l : List Pg) : 27 * l.length ≤ wts l := by
 induction l with
 | nil => exact Nat.le_refl _
 | cons x r ih =>
   show 27 * (r.length + 1) ≤ x.wt + wts r
   unfold Pg.wt
   omega
theorem lace_len (more : Bool) : ∀ (ps : List (List Int)), (lace more ps).length ≤ ps.length + ps.flatten.length
 | [] => Nat.le_refl _
 | x :: r => by
   have ih := lace_len more r
   show (lc x ++ (if r = [] ∧ more = true then [] else [lr x]) ++ lace more r).length ≤ _
   have h1 : (lc x).length = x.length / 255 := by
     have : ∀ (n : Nat) (x : List Int), (full n x).length = n := by
       intro n
       induction n with
       | zero => intro x; rfl
       | succ n ih => intro x; show (full n _).length + 1 = n + 1; rw [ih]
     exact this _ _
   have h2 : (if r = [] ∧ more = true then [] else [lr x]).length ≤ 1 := by split <;> simp
   rw [List.length_append, List.length_append, h1, List.length_cons, List.flatten_cons, List.length_append]
   omega
theorem Pg.sane_of {p : Pg} (h : p.ser < 4294967296 ∧ p.seq < 4294967296 ∧ p.gran < 18446744073709551616) (hw : p.wt ≤ 1073741824) : p.sane := by
 unfold Pg.wt at hw
 have h1 : p.segs.length ≤ p.pts.length + p.pts.flatten.length := lace_len _ _
 have h2 : p.pts.flatten.length = psz p.parts := psz_pts _
 have h3 : p.pts.length = p.parts.length := List.length_map ..
 exact ⟨h.1, h.2.1, h.2.2, by omega, by omega, by omega⟩
def encAll (ps : List Pg) : List Int := (ps.map pgEnc).flatten
theorem pgEnc_size {p : Pg} (h : p.good) : (pgEnc p).length ≤ 282 + psz p.parts := by
 rw [pgEnc_len h, segs_flat h, show p.pts.flatten.length = psz p.parts from psz_pts _]
 have := h.cnt
 omega
theorem encAll_size : ∀ (ps : List Pg), (∀ p ∈ ps, p.good) → (encAll ps).length ≤ 12 * wts ps
 | [], _ => Nat.le_refl _
 | p :: r, h => by
   have h1 := pgEnc_size (h p (List.mem_cons_self ..))
   have h2 := encAll_size r fun q hq => h q (List.mem_cons_of_mem _ hq)
   show (pgEnc p ++ encAll r).length ≤ 12 * (p.wt + wts r)
   rw [List.length_append]
   unfold Pg.wt
   omega
theorem oggWriteW (w0 : World) {v : Value} {xs : List (Pg × Value)} (hv : pgsAt w0 v xs) (hw : wtx xs ≤ 1073741824) :
   CallsA Tryz.prog w0 21 [.c (.val v)] [] fun r H =>
     ((∀ x ∈ xs, x.1.okW) ∧ r = .t [.c (.val (.string (strOf (encAll (xs.map Prod.fst))))), .c (.val (.int .i64 ((1 : Nat) : Int)))] ∧ H = []) ∨
     ((∃ x ∈ xs, ¬ x.1.okW) ∧ r = .t [.c (.val (.string (ByteArray.mk #[]))), .c (.val (.int .i64 ((2 : Nat) : Int)))] ∧ H = []) := by
 have hlen := wts_len (xs.map Prod.fst)
 rw [List.length_map] at hlen
 unfold wtx at hw
 refine callsA_of_ev c21_ ?_
 conv => whnf
 refine Or.inr ⟨PLift (∀ x ∈ xs, x.1.okW), fun _ => ⟨[(4, .o (.c (.val (.string (strOf (encAll (xs.map Prod.fst)))))))], []⟩, ?_, fun ⟨hok⟩ => ?_⟩
 · rcases hv with ⟨rfl, rfl⟩ | ⟨a, c, rfl, hc, hb⟩
   · conv => whnf
     refine ⟨Unit, fun _ => ⟨[(4, .o (.c (.val (.string (ByteArray.mk #[]))))), (10, .o (.c (.val (.int .i64 ((0 : Nat) : Int))))), (11, .o (.c (.val (.int .i64 ((0 : Nat) : Int)))))], []⟩, fun _ => 0, ⟨(), [], ⟨rfl, trivial, rfl⟩, rfl, rfl, rfl, trivial⟩, fun _ => ?_⟩
     conv => whnf
     refine ⟨fun g => zF g, fun _ => ?_⟩
     conv => whnf
     exact ⟨⟨fun x hx => (List.not_mem_nil hx).elim⟩, [], ⟨rfl, trivial, rfl⟩, rfl, trivial⟩
   · conv => whnf
     refine ⟨{j : Nat // j ≤ xs.length ∧ ∀ x ∈ xs.take j, x.1.okW}, fun ⟨j, _⟩ => ⟨[(4, .o (.c (.val (.string (strOf (encAll ((xs.take j).map Prod.fst))))))), (9, .o (.c (.val (.slice (some a) xs.length c)))), (10, .o (.c (.val (.int .i64 (xs.length : Nat))))), (11, .o (.c (.val (.int .i64 (j : Nat)))))], []⟩, fun j => xs.length - j.1, ⟨⟨0, Nat.zero_le _, fun x hx => (List.not_mem_nil hx).elim⟩, [], ⟨rfl, trivial, rfl⟩, rfl, rfl, rfl, rfl, trivial⟩, fun ⟨j, hj, hoks⟩ => ?_⟩
     conv => whnf
     refine ⟨fun g => ?_, fun g => ?_⟩
     · have g : j < xs.length := lt_t g
       obtain ⟨⟨p, pv⟩, hx⟩ : ∃ x, xs[j]? = some x := ⟨_, List.getElem?_eq_getElem g⟩
       have hcl := hb j _ hx
       simp only at hcl
       have hpm : p ∈ xs.map Prod.fst := List.mem_map.2 ⟨_, List.mem_of_getElem? hx, rfl⟩
       have hpw := wts_mem hpm
       have hsan := Pg.sane_of (p := p) ⟨hcl.fit.1, hcl.fit.2.1, hcl.fit.2.2.1⟩ (by omega)
       have htk : (xs.take (j + 1)).map Prod.fst = (xs.take j).map Prod.fst ++ [p] := by rw [List.take_add_one, hx, List.map_append]; rfl
       have hgs : ∀ q ∈ (xs.take j).map Prod.fst, q.good := fun q hq => by
         obtain ⟨y, hy, rfl⟩ := List.mem_map.1 hq
         obtain ⟨i, hi, hyi⟩ := List.mem_iff_getElem.1 hy
         have hyx : xs[i]? = some y := by
           rw [← hyi, List.getElem_take]
           exact List.getElem?_eq_getElem _
         have := (hb i y hyx).fit
         exact (hoks y hy).good this.1 this.2.1 this.2.2.1
       have hsz := encAll_size _ hgs
       have hwt : wts ((xs.take j).map Prod.fst) + p.wt ≤ wts (xs.map Prod.fst) := by
         have h1 := wts_add ((xs.take (j + 1)).map Prod.fst) ((xs.drop (j + 1)).map Prod.fst)
         rw [← List.map_append, List.take_append_drop, htk, wts_add] at h1
         have : wts [p] = p.wt := Nat.add_zero _
         omega
       conv => whnf
       refine Or.inl ?_
       conv => whnf
       refine ⟨⟨Int.natCast_nonneg j, Int.ofNat_lt.2 g⟩, ?_⟩
       conv => whnf
       refine ⟨.int .u32 (p.ser : Nat), ?_⟩
       conv => whnf
       refine ⟨hcl.c0, ?_⟩
       conv => whnf
       refine ⟨rfl, ?_⟩
       conv => whnf
       refine ⟨.int .u32 (p.seq : Nat), ?_⟩
       conv => whnf
       refine ⟨hcl.c1, ?_⟩
       conv => whnf
       refine ⟨rfl, ?_⟩
       conv => whnf
       refine ⟨.int .u64 (p.gran : Nat), ?_⟩
       conv => whnf
       refine ⟨hcl.c2, ?_⟩
       conv => whnf
       refine ⟨rfl, ?_⟩
       conv => whnf
       refine ⟨.int .i64 p.flags, ?_⟩
       conv => whnf
       refine ⟨hcl.c3, ?_⟩
       conv => whnf
       refine ⟨rfl, ?_⟩
       conv => whnf
       refine ⟨pv, ?_⟩
       conv => whnf
       refine ⟨hcl.c4, ?_⟩
       conv => whnf
       refine ⟨hcl.one, ?_⟩
       conv => whnf
       refine ⟨.bool p.more, ?_⟩
       conv => whnf
       refine ⟨hcl.c5, ?_⟩
       conv => whnf
       refine ⟨rfl, ?_⟩
       conv => whnf
       refine cL0 (pageTextW w0 hcl.str hsan) ?_
       rintro _ _ (⟨hok, rfl, rfl⟩ | ⟨hno, rfl, rfl⟩)
       · conv => whnf
         refine Or.inl ?_
         conv => whnf
         refine ⟨fun g => zF g, fun _ => ?_⟩
         conv => whnf
         have hg := hok.good hsan.ser hsan.seq hsan.gran
         have hps := pgEnc_size hg
         refine ⟨by rw [strOf_siz, strOf_siz]; unfold Pg.wt at hpw hwt; omega, ?_⟩
         conv => whnf
         refine ⟨⟨j + 1, g, fun x hx2 => ?_⟩, ⟨[], ⟨rfl, trivial, rfl⟩, ?_, rfl, rfl, eq_i64 (by rw [nadd, nwrapi (by omega)]), trivial⟩, by show xs.length - (j + 1) < xs.length - j; omega⟩
         · rw [List.take_add_one, hx] at hx2
           rcases List.mem_append.1 hx2 with h | h
           · exact hoks x h
           · rw [List.mem_singleton.1 h]
             exact hok
         · show some (AV.o (.c (.val (.string (strOf (encAll ((xs.take j).map Prod.fst)) ++ strOf (pgEnc p)))))) = some (AV.o (.c (.val (.string (strOf (encAll ((xs.take (j + 1)).map Prod.fst)))))))
           rw [htk, ← strOf_add]
           unfold encAll
           rw [List.map_append, List.flatten_append, List.map_cons, List.map_nil, List.flatten_singleton]
       · conv => whnf
         refine Or.inl ?_
         conv => whnf
         refine ⟨fun _ => ?_, fun g => zT g⟩
         conv => whnf
         exact Or.inr ⟨[], .t [.c (.val (.string (ByteArray.mk #[]))), .c (.val (.int .i64 ((2 : Nat) : Int)))], [], ⟨rfl, trivial, rfl⟩, rfl, .inr ⟨⟨(p, pv), List.mem_of_getElem? hx, hno⟩, rfl, rfl⟩⟩
     · have g : xs.length ≤ j := lt_f g
       have hall : xs.take j = xs := List.take_of_length_le g
       conv => whnf
       rw [hall]
       exact ⟨⟨by rw [hall] at hoks; exact hoks⟩, [], ⟨rfl, trivial, rfl⟩, rfl, trivial⟩
 · conv => whnf
   exact Or.inl (.inl ⟨hok, rfl, rfl⟩)
end Go.Proofs.YtokkphocaloelaaGreatDoor

end
section
namespace Go.Proofs.YtokkphocaloelaaGreatDoor
open Go Go.Vc
open Go.RowKit (Below)
set_option maxRecDepth 100000
set_option maxHeartbeats 8000000

theorem callsA_base2 {P : Program} {w0 : World} {f : FuncId} {args : List A1} {H : List Blk} {y z : Value}
   (hcal : (match P.funcs[f]? with | some fn => fn.body.isSome && !(fn.name == "runtime.NumGoroutine") | none => false) = true)
   (h : ∀ ρ w vs, RH w0 ρ H w → All2 (A1.R ρ) args vs → ∃ args', All2 (A1.R []) args' vs ∧ CallsA P w f args' [] fun r H' => r = .t [.c (.val y), .c (.val z)] ∧ H' = []) :
   CallsA P w0 f args H fun r H' => r = .t [.c (.val y), .c (.val z)] ∧ H' = H := by
 refine ⟨hcal, fun ρ w vs hR hA => ?_⟩
 obtain ⟨args', hA', hc⟩ := h ρ w vs hR hA
 have h0 : RH w [] [] w := ⟨rfl, fun b k e h => by simp at h, fun b b' k k' g h => by simp at h, fun g hg => by obtain ⟨b, k, h, _⟩ := hg; simp at h, Below.refl _ _⟩
 refine (hc.out [] w vs h0 hA').mono ?_
 rintro e w' ⟨r, H', ρ', v, ⟨rfl, rfl⟩, rfl, hv, hR', _, hfr, _⟩
 have hb := hR'.base
 have hold : ∀ i, i < w.heap.size → w'.heap[i]? = w.heap[i]? := fun i hi => hb.block i hi
 have hv' : AV.R ρ (.t [.c (.val y), .c (.val z)]) v := by
   obtain ⟨ys, rfl, hy⟩ := hv
   refine ⟨ys, rfl, ?_⟩
   generalize ys.toList = l at hy
   cases hy with
   | cons h1 hy =>
     cases hy with
     | cons h2 hy =>
       cases hy
       exact .cons ⟨h1.1, h1.2⟩ (.cons ⟨h2.1, h2.2⟩ .nil)
 refine ⟨_, H, ρ, v, ⟨rfl, rfl⟩, rfl, hv', ⟨hR.len, fun b k e hb' he => (hR.ok b k e hb' he).keep fun g hg hl => hold g ((hR.ok b k e hb' he).block hl hg), hR.inj, fun g hg => ⟨(hR.lo g hg).1, Nat.lt_of_lt_of_le (hR.lo g hg).2 hb.size⟩, ?_⟩, ⟨[], by simp⟩, ?_, fun g hg => .inl hg⟩
 · exact ⟨hb.os.trans hR.base.os, hb.tape.trans hR.base.tape, hb.output.trans hR.base.output, Nat.le_trans hR.base.size hb.size, fun k hk => (hold k (Nat.lt_of_lt_of_le hk hR.base.size)).trans (hR.base.block k hk)⟩
 · exact ⟨hb.os, hb.tape, hb.output, hb.size, fun i hi _ => hold i hi⟩
def tagsE : List Int := [79, 112, 117, 115, 84, 97, 103, 115] ++ leL 9 4 ++ [99, 97, 114, 114, 111, 110, 97, 100, 101] ++ leL 0 4
theorem tagsW (w0 : World) : CallsA Tryz.prog w0 22 [.c (.val (.string (ByteArray.mk #[99, 97, 114, 114, 111, 110, 97, 100, 101]))), .c (.val (.slice none 0 0))] [] fun r H => r = .o (.c (.val (.string (strOf tagsE)))) ∧ H = [] := by
 refine callsA_of_ev c22_ ?_
 conv => whnf
 have w1 : IntKind.u64.wrap (((ByteArray.mk #[99, 97, 114, 114, 111, 110, 97, 100, 101]).size : Nat) : Int) = ((9 : Nat) : Int) := rfl
 have w2 : IntKind.u64.wrap ((0 : Nat) : Int) = ((0 : Nat) : Int) := rfl
 have h8 : (ByteArray.mk #[79, 112, 117, 115, 84, 97, 103, 115]).size = 8 := rfl
 have h9 : (ByteArray.mk #[99, 97, 114, 114, 111, 110, 97, 100, 101]).size = 9 := rfl
 rw [w1]
 refine cL0 (leastW w0 9 (size := 4) (by decide)) ?_
 rintro _ _ ⟨rfl, rfl⟩
 conv => whnf
 refine ⟨by rw [h8, strOf_siz, leL_len]; decide, ?_⟩
 conv => whnf
 refine ⟨by rw [ByteArray.size_append, h8, h9, strOf_siz, leL_len]; decide, ?_⟩
 conv => whnf
 rw [w2]
 refine cL0 (leastW w0 0 (size := 4) (by decide)) ?_
 rintro _ _ ⟨rfl, rfl⟩
 conv => whnf
 refine ⟨by rw [ByteArray.size_append, ByteArray.size_append, h8, h9, strOf_siz, strOf_siz, leL_len, leL_len]; decide, ?_⟩
 conv => whnf
 have ht : ByteArray.mk #[79, 112, 117, 115, 84, 97, 103, 115] ++ strOf (leL 9 4) ++ ByteArray.mk #[99, 97, 114, 114, 111, 110, 97, 100, 101] ++ strOf (leL 0 4) = strOf tagsE := by
   unfold tagsE
   rw [strOf_add, strOf_add, strOf_add]
   rfl
 rw [ht]
 refine Or.inl ?_
 conv => whnf
 refine ⟨Unit, fun _ => ⟨[(5, .o (.c (.val (.string (strOf tagsE))))), (21, .o (.c (.val (.int .i64 ((0 : Nat) : Int))))), (22, .o (.c (.val (.int .i64 ((0 : Nat) : Int)))))], []⟩, fun _ => 0, ⟨(), [], ⟨rfl, trivial, rfl⟩, rfl, rfl, rfl, trivial⟩, fun _ => ?_⟩
 conv => whnf
 refine ⟨fun g => zF g, fun _ => ?_⟩
 conv => whnf
 exact Or.inl ⟨rfl, rfl⟩
def hdPg (s : ByteArray) : Pg := ⟨1, 0, 0, 2, [s], false⟩
def tgPg (t : ByteArray) : Pg := ⟨1, 1, 0, 0, [t], false⟩
theorem ok_one {p : Pg} {s : ByteArray} (h1 : p.parts = [s]) (h2 : p.more = false) (h3 : s.size ≤ 60000) (h4 : 0 ≤ p.flags ∧ p.flags ≤ 7) : p.okW := by
 refine ⟨fun h => Bool.noConfusion (h.1.symm.trans h2), ?_, fun h => Bool.noConfusion (h.symm.trans h2), h4.1, h4.2⟩
 have hl : (bytesOf s).length = s.size := bytesOf_len s
 have e1 : p.segs = lc (bytesOf s) ++ [lr (bytesOf s)] := by
   unfold Pg.segs Pg.pts
   rw [h1, h2]
   show lc (bytesOf s) ++ (if [] = [] ∧ false = true then [] else [lr (bytesOf s)]) ++ [] = _
   rw [if_neg (fun c => Bool.noConfusion c.2), List.append_nil]
 have h2 : (lc (bytesOf s)).length = (bytesOf s).length / 255 := by
   have := congrArg List.length (lenI_lc (bytesOf s))
   unfold lenI at this
   rw [List.length_map, List.length_replicate] at this
   exact this
 rw [e1, List.length_append, h2, List.length_singleton, hl]
 omega
theorem all2_cons {α β : Type} {R : α → β → Prop} {a : α} {l : List α} {m : List β} (h : All2 R (a :: l) m) : ∃ b m', m = b :: m' ∧ R a b ∧ All2 R l m' := by
 cases h with
 | cons h1 h2 => exact ⟨_, _, rfl, h1, h2⟩
def twoPg : List CV := [.val (.int .u32 ((1 : Nat) : Int)), .val (.int .u32 ((0 : Nat) : Int)), .val (.int .u64 ((0 : Nat) : Int)), .val (.int .i64 ((2 : Nat) : Int)), .sli 1 1 0 1 1, .val (.bool false), .val (.int .u32 ((1 : Nat) : Int)), .val (.int .u32 ((1 : Nat) : Int)), .val (.int .u64 ((0 : Nat) : Int)), .val (.int .i64 ((0 : Nat) : Int)), .sli 2 1 0 1 1, .val (.bool false)]
theorem own_str {w0 : World} {ρ : Ren} {H : List Blk} {w : World} (hR : RH w0 ρ H w) {b : Nat} {T : TypeId} {s : ByteArray} (hb : H[b]? = some (.cells T [.val (.string s)])) {v : Value} (hv : (CV.sli b 1 0 1 1).R ρ v) : strsAt w v [s] ∧ v.oneCell' = true := by
 obtain ⟨e, hρ, g, arr, k1, k2, k3⟩ := hR.get hb
 obtain ⟨g', hg, rfl, _⟩ := hv
 have hgg : g' = g := by
   rw [at_of_get hρ, k1] at hg
   exact (Option.some.inj hg).symm
 subst hgg
 obtain ⟨x, r, hx, h0, _⟩ := all2_cons k3
 refine ⟨.inr ⟨_, 1, rfl, Nat.le_refl _, fun i s' hi => ?_⟩, rfl⟩
 match i, hi with
 | 0, hi =>
   cases hi
   show w.cell? ⟨g', _, none⟩ = _
   rw [cell_at k2, ← Array.getElem?_toList, hx]
   exact congrArg some h0.1
 | i + 1, hi => simp at hi
theorem own_pages {w0 : World} {ρ : Ren} {H : List Blk} {w : World} (hR : RH w0 ρ H w) {T1 T2 T3 : TypeId} {s t : ByteArray} (h1 : H[1]? = some (.cells T1 [.val (.string s)])) (h2 : H[2]? = some (.cells T2 [.val (.string t)])) (h3 : H[3]? = some (.cells T3 twoPg)) {v : Value} (hv : (CV.sli 3 6 0 2 2).R ρ v) :
   ∃ v1 v2, pgsAt w v [(hdPg s, v1), (tgPg t, v2)] ∧ v.oneCell' = true := by
 obtain ⟨e, hρ, g, arr, k1, k2, k3⟩ := hR.get h3
 obtain ⟨g', hg, rfl, _⟩ := hv
 have hgg : g' = g := by
   rw [at_of_get hρ, k1] at hg
   exact (Option.some.inj hg).symm
 subst hgg
 unfold twoPg at k3
 obtain ⟨x0, r0, e0, q0, k3⟩ := all2_cons k3
 obtain ⟨x1, r1, e1, q1, k3⟩ := all2_cons k3
 obtain ⟨x2, r2, e2, q2, k3⟩ := all2_cons k3
 obtain ⟨x3, r3, e3, q3, k3⟩ := all2_cons k3
 obtain ⟨x4, r4, e4, q4, k3⟩ := all2_cons k3
 obtain ⟨x5, r5, e5, q5, k3⟩ := all2_cons k3
 obtain ⟨y0, r6, e6, p0, k3⟩ := all2_cons k3
 obtain ⟨y1, r7, e7, p1, k3⟩ := all2_cons k3
 obtain ⟨y2, r8, e8, p2, k3⟩ := all2_cons k3
 obtain ⟨y3, r9, e9, p3, k3⟩ := all2_cons k3
 obtain ⟨y4, r10, e10, p4, k3⟩ := all2_cons k3
 obtain ⟨y5, r11, e11, p5, k3⟩ := all2_cons k3
 have harr : arr.toList = [x0, x1, x2, x3, x4, x5, y0, y1, y2, y3, y4, y5] ++ r11 := by rw [e0, e1, e2, e3, e4, e5, e6, e7, e8, e9, e10, e11]; rfl
 have hat : ∀ (k : Nat) x, ([x0, x1, x2, x3, x4, x5, y0, y1, y2, y3, y4, y5] ++ r11)[k]? = some x → w.cell? ⟨g', k, none⟩ = some x := fun k x hk => by rw [cell_at k2, ← Array.getElem?_toList, harr, hk]
 obtain ⟨s1, o1⟩ := own_str hR h1 q4
 obtain ⟨s2, o2⟩ := own_str hR h2 p4
 refine ⟨x4, y4, .inr ⟨_, 2, rfl, Nat.le_refl _, fun i x hi => ?_⟩, rfl⟩
 match i, hi with
 | 0, hi =>
   cases hi
   exact ⟨hat 0 _ (congrArg some q0.1), hat 1 _ (congrArg some q1.1), hat 2 _ (congrArg some q2.1), hat 3 _ (congrArg some q3.1), hat 4 _ rfl, hat 5 _ (congrArg some q5.1), o1, s1, ⟨show 1 < 4294967296 by decide, show 0 < 4294967296 by decide, show 0 < 18446744073709551616 by decide, show (-9223372036854775808 : Int) ≤ 2 by decide, show (2 : Int) < 9223372036854775808 by decide⟩⟩
 | 1, hi =>
   cases hi
   exact ⟨hat 6 _ (congrArg some p0.1), hat 7 _ (congrArg some p1.1), hat 8 _ (congrArg some p2.1), hat 9 _ (congrArg some p3.1), hat 10 _ rfl, hat 11 _ (congrArg some p5.1), o2, s2, ⟨show 1 < 4294967296 by decide, show 1 < 4294967296 by decide, show 0 < 18446744073709551616 by decide, show (-9223372036854775808 : Int) ≤ 0 by decide, show (0 : Int) < 9223372036854775808 by decide⟩⟩
 | i + 2, hi => simp at hi
theorem Hd.text_size {h : Hd} (h1 : h.text.2 = 1) : h.text.1.size ≤ 276 := by
 have hf : h.fix.length = 19 := by
   unfold Hd.fix opusHead
   simp only [List.length_append, leL_len, List.length_cons, List.length_nil]
 unfold Hd.text at h1 ⊢
 by_cases c1 : h.bad
 · rw [if_pos c1] at h1
   exact absurd h1 (by decide)
 rw [if_neg c1] at h1 ⊢
 by_cases c2 : h.map = 0
 · rw [if_pos c2] at h1 ⊢
   show (strOf h.fix).size ≤ 276
   rw [strOf_siz, hf]
   decide
 rw [if_neg c2] at h1 ⊢
 by_cases c3 : h.bad2
 · rw [if_pos c3] at h1
   exact absurd h1 (by decide)
 rw [if_neg c3] at h1 ⊢
 show (strOf (h.fix ++ [h.str, h.cou]) ++ h.mapping).size ≤ 276
 rw [ByteArray.size_append, strOf_siz, List.length_append, hf]
 unfold Hd.bad at c1
 unfold Hd.bad2 at c3
 simp only [List.length_cons, List.length_nil]
 omega
def tagsS : ByteArray := strOf tagsE
def Hd.pages (h : Hd) : List Pg := [hdPg h.text.1, tgPg tagsS]
theorem headWriteW (w0 : World) (h : Hd) (hr : h.rate < 4294967296) (hi : ∀ x ∈ [h.ver, h.ch, h.map, h.skip, h.gain, h.str, h.cou], -9223372036854775808 ≤ x ∧ x < 9223372036854775808) (hm : h.mapping.size ≤ 2147483647)
   {ma : Option Addr} {mn mc : Nat} : CallsA Tryz.prog w0 25 [.a (h.cells (.slice ma mn mc))] [] fun r H =>
     (mn = 0 ∧ h.text.2 = 1 ∧ r = .t [.c (.val (.string (strOf (encAll h.pages)))), .c (.val (.int .i64 ((1 : Nat) : Int)))] ∧ H = []) ∨
     (r = .t [.c (.val (.string (ByteArray.mk #[]))), .c (.val (.int .i64 ((2 : Nat) : Int)))] ∧ H = []) := by
 have ht := headTextW w0 h hr hi hm (ma := ma) (mn := mn) (mc := mc)
 refine callsA_of_ev c25_ ?_
 conv => whnf
 refine cL0 ht ?_
 rintro _ _ ⟨rfl, rfl⟩
 conv => whnf
 refine Or.inl ?_
 conv => whnf
 refine ⟨fun g => ?_, fun g => ?_⟩
 · conv => whnf
   exact Or.inr ⟨[], .t [.c (.val (.string (ByteArray.mk #[]))), .c (.val (.int .i64 ((2 : Nat) : Int)))], [], ⟨rfl, trivial, rfl⟩, rfl, .inr ⟨rfl, rfl⟩⟩
 have g : (h.textM mn).2 = 1 := of_bne_f (b := 1) g
 have hmn : mn = 0 := by
   unfold Hd.textM at g
   by_cases c : 0 < mn
   · rw [if_pos c] at g
     exact absurd g (by decide)
   · omega
 subst hmn
 have hT : h.textM 0 = h.text := if_neg (Nat.lt_irrefl _)
 rw [hT] at g ⊢
 have hsz := Hd.text_size g
 conv => whnf
 refine cL0 (tagsW w0) ?_
 rintro _ _ ⟨rfl, rfl⟩
 conv => whnf
 have hts : tagsS.size = 25 := by unfold tagsS; rw [strOf_siz]; rfl
 have hok : ∀ x ∈ [(hdPg h.text.1, (Value.bool false)), (tgPg tagsS, (Value.bool false))], x.1.okW := by
   intro x hx
   simp only [List.mem_cons, List.not_mem_nil, or_false] at hx
   rcases hx with rfl | rfl
   · exact ok_one (s := h.text.1) rfl rfl (by omega) ⟨show (0 : Int) ≤ 2 by decide, show (2 : Int) ≤ 7 by decide⟩
   · exact ok_one (s := tagsS) rfl rfl (by omega) ⟨show (0 : Int) ≤ 0 by decide, show (0 : Int) ≤ 7 by decide⟩
 have hcal := (oggWriteW w0 (v := .slice none 0 0) (xs := []) (.inl ⟨rfl, rfl⟩) (by decide)).cal
 refine (callsA_base2 (y := .string (strOf (encAll h.pages))) (z := .int .i64 ((1 : Nat) : Int)) hcal fun ρ w vs hR hA => ?_).mono ?_
 · cases hA with
   | cons hv hA =>
     cases hA
     obtain ⟨v1, v2, hpg, hone⟩ := own_pages (s := h.text.1) (t := tagsS) hR rfl rfl rfl hv
     refine ⟨[.c (.val _)], .cons ⟨rfl, hone⟩ .nil, (oggWriteW w hpg ?_).mono ?_⟩
     · show 27 + 1 + (h.text.1.size + 0) + (27 + 1 + (tagsS.size + 0) + 0) ≤ _
       omega
     · rintro _ _ (⟨_, rfl, rfl⟩ | ⟨⟨x, hx, hno⟩, _, _⟩)
       · exact ⟨rfl, rfl⟩
       · simp only [List.mem_cons, List.not_mem_nil, or_false] at hx
         rcases hx with rfl | rfl
         · exact absurd (hok _ (List.mem_cons_self ..)) hno
         · exact absurd (hok _ (List.mem_cons_of_mem _ (List.mem_cons_self ..))) hno
 · rintro _ _ ⟨rfl, rfl⟩
   conv => whnf
   exact Or.inr ⟨[], .t [.c (.val (.string (strOf (encAll h.pages)))), .c (.val (.int .i64 ((1 : Nat) : Int)))], [], ⟨rfl, trivial, rfl⟩, rfl, .inl ⟨rfl, g, rfl, rfl⟩⟩
end Go.Proofs.YtokkphocaloelaaGreatDoor

end
section
namespace Go.Proofs.YtokkphocaloelaaGreatDoor
open Go Go.Vc
set_option maxRecDepth 100000
set_option maxHeartbeats 8000000

theorem zz6W (w0 : World) {v : Value} {ss : List ByteArray} (h : strsAt w0 v ss) : CallsA Tryz.prog w0 50 [.c (.val v)] [] fun r H => (∃ t, r = .o (.c (.val (.bool t)))) ∧ H = [] := by
 rcases h with ⟨rfl, rfl⟩ | ⟨a, c, rfl, hc, hb⟩
 · refine callsA_of_ev c50_ ?_
   conv => whnf
   refine Or.inl ?_
   conv => whnf
   refine ⟨fun g => absurd (gt_t (a := 0) (b := 2147483647) g) (by decide), fun _ => ?_⟩
   conv => whnf
   refine Or.inl ?_
   conv => whnf
   refine ⟨Unit, fun _ => ⟨[(9, .o (.c (.val (.int .i64 ((0 : Nat) : Int))))), (10, .o (.c (.val (.int .i64 ((0 : Nat) : Int)))))], []⟩, fun _ => 0, ⟨(), [], ⟨rfl, trivial, rfl⟩, rfl, rfl, trivial⟩, fun _ => ?_⟩
   conv => whnf
   refine ⟨fun g => zF g, fun _ => ?_⟩
   conv => whnf
   exact Or.inl ⟨⟨_, rfl⟩, rfl⟩
 · refine callsA_of_ev c50_ ?_
   conv => whnf
   refine Or.inl ?_
   conv => whnf
   refine ⟨fun g0 => ?_, fun g0 => ?_⟩
   · conv => whnf
     exact Or.inl ⟨⟨_, rfl⟩, rfl⟩
   have g0 : ss.length ≤ 2147483647 := gt_f g0
   conv => whnf
   refine Or.inl ?_
   conv => whnf
   refine ⟨{j : Nat // j ≤ ss.length}, fun ⟨j, _⟩ => ⟨[(8, .o (.c (.val (.slice (some a) ss.length c)))), (9, .o (.c (.val (.int .i64 (ss.length : Nat))))), (10, .o (.c (.val (.int .i64 (j : Nat)))))], []⟩, fun j => ss.length - j.1, ⟨⟨0, Nat.zero_le _⟩, [], ⟨rfl, trivial, rfl⟩, rfl, rfl, rfl, trivial⟩, fun ⟨j, hj⟩ => ?_⟩
   conv => whnf
   refine ⟨fun g => ?_, fun g => ?_⟩
   · have g : j < ss.length := lt_t g
     obtain ⟨s, hs⟩ : ∃ s, ss[j]? = some s := ⟨_, List.getElem?_eq_getElem g⟩
     conv => whnf
     refine Or.inl ?_
     conv => whnf
     refine ⟨⟨Int.natCast_nonneg j, Int.ofNat_lt.2 g⟩, ?_⟩
     conv => whnf
     refine ⟨.string s, ?_⟩
     conv => whnf
     refine ⟨hb j s hs, ?_⟩
     conv => whnf
     refine ⟨rfl, ?_⟩
     conv => whnf
     refine ⟨fun g1 => ?_, fun g1 => ?_⟩
     · conv => whnf
       exact Or.inl ⟨⟨_, rfl⟩, rfl⟩
     · conv => whnf
       exact ⟨⟨j + 1, g⟩, ⟨[], ⟨rfl, trivial, rfl⟩, rfl, rfl, eq_i64 (by rw [nadd, nwrapi (by omega)]), trivial⟩, by show ss.length - (j + 1) < ss.length - j; omega⟩
   · conv => whnf
     exact Or.inl ⟨⟨_, rfl⟩, rfl⟩
theorem zz9W (w0 : World) {p : Pg} {v : Value} (h : strsAt w0 v p.parts) : CallsA Tryz.prog w0 24 [.a (pgA p v)] [] fun r H => (∃ t, r = .o (.c (.val (.bool t)))) ∧ H = [] := by
 refine callsA_of_ev c24_ ?_
 conv => whnf
 refine Or.inl ?_
 conv => whnf
 refine cL0 (zz6W w0 h) ?_
 rintro _ _ ⟨⟨t, rfl⟩, rfl⟩
 conv => whnf
 refine ⟨fun g => ?_, fun g => ?_⟩
 · conv => whnf
   exact Or.inr ⟨[], .o (.c (.val (.bool false))), [], ⟨rfl, trivial, rfl⟩, rfl, ⟨_, rfl⟩, rfl⟩
 · conv => whnf
   exact Or.inr ⟨[], .o (.c (.val (.bool true))), [], ⟨rfl, trivial, rfl⟩, rfl, ⟨_, rfl⟩, rfl⟩
theorem zz8W (w0 : World) {v : Value} {xs : List (Pg × Value)} (hv : pgsAt w0 v xs) : CallsA Tryz.prog w0 9 [.c (.val v)] [] fun r H => (∃ t, r = .o (.c (.val (.bool t)))) ∧ H = [] := by
 rcases hv with ⟨rfl, rfl⟩ | ⟨a, c, rfl, hc, hb⟩
 · refine callsA_of_ev c9_ ?_
   conv => whnf
   refine Or.inl ?_
   conv => whnf
   refine ⟨fun g => absurd (gt_t (a := 0) (b := 2147483647) g) (by decide), fun _ => ?_⟩
   conv => whnf
   refine Or.inl ?_
   conv => whnf
   refine ⟨Unit, fun _ => ⟨[(9, .o (.c (.val (.int .i64 ((0 : Nat) : Int))))), (10, .o (.c (.val (.int .i64 ((0 : Nat) : Int)))))], []⟩, fun _ => 0, ⟨(), [], ⟨rfl, trivial, rfl⟩, rfl, rfl, trivial⟩, fun _ => ?_⟩
   conv => whnf
   refine ⟨fun g => zF g, fun _ => ?_⟩
   conv => whnf
   exact Or.inl ⟨⟨_, rfl⟩, rfl⟩
 · refine callsA_of_ev c9_ ?_
   conv => whnf
   refine Or.inl ?_
   conv => whnf
   refine ⟨fun g0 => ?_, fun g0 => ?_⟩
   · conv => whnf
     exact Or.inl ⟨⟨_, rfl⟩, rfl⟩
   have g0 : xs.length ≤ 2147483647 := gt_f g0
   conv => whnf
   refine Or.inr ⟨Unit, fun _ => ⟨[], []⟩, ?_, fun _ => ?_⟩
   · conv => whnf
     refine ⟨{j : Nat // j ≤ xs.length}, fun ⟨j, _⟩ => ⟨[(8, .o (.c (.val (.slice (some a) xs.length c)))), (9, .o (.c (.val (.int .i64 (xs.length : Nat))))), (10, .o (.c (.val (.int .i64 (j : Nat)))))], []⟩, fun j => xs.length - j.1, ⟨⟨0, Nat.zero_le _⟩, [], ⟨rfl, trivial, rfl⟩, rfl, rfl, rfl, trivial⟩, fun ⟨j, hj⟩ => ?_⟩
     conv => whnf
     refine ⟨fun g => ?_, fun g => ?_⟩
     · have g : j < xs.length := lt_t g
       obtain ⟨⟨p, pv⟩, hx⟩ : ∃ x, xs[j]? = some x := ⟨_, List.getElem?_eq_getElem g⟩
       have hcl := hb j _ hx
       simp only at hcl
       conv => whnf
       refine Or.inl ?_
       conv => whnf
       refine ⟨⟨Int.natCast_nonneg j, Int.ofNat_lt.2 g⟩, ?_⟩
       conv => whnf
       refine ⟨.int .u32 (p.ser : Nat), ?_⟩
       conv => whnf
       refine ⟨hcl.c0, ?_⟩
       conv => whnf
       refine ⟨rfl, ?_⟩
       conv => whnf
       refine ⟨.int .u32 (p.seq : Nat), ?_⟩
       conv => whnf
       refine ⟨hcl.c1, ?_⟩
       conv => whnf
       refine ⟨rfl, ?_⟩
       conv => whnf
       refine ⟨.int .u64 (p.gran : Nat), ?_⟩
       conv => whnf
       refine ⟨hcl.c2, ?_⟩
       conv => whnf
       refine ⟨rfl, ?_⟩
       conv => whnf
       refine ⟨.int .i64 p.flags, ?_⟩
       conv => whnf
       refine ⟨hcl.c3, ?_⟩
       conv => whnf
       refine ⟨rfl, ?_⟩
       conv => whnf
       refine ⟨pv, ?_⟩
       conv => whnf
       refine ⟨hcl.c4, ?_⟩
       conv => whnf
       refine ⟨hcl.one, ?_⟩
       conv => whnf
       refine ⟨.bool p.more, ?_⟩
       conv => whnf
       refine ⟨hcl.c5, ?_⟩
       conv => whnf
       refine ⟨rfl, ?_⟩
       conv => whnf
       refine cL0 (zz9W w0 hcl.str) ?_
       rintro _ _ ⟨⟨t, rfl⟩, rfl⟩
       conv => whnf
       refine ⟨fun g1 => ?_, fun g1 => ?_⟩
       · conv => whnf
         exact Or.inr ⟨[], .o (.c (.val (.bool false))), [], ⟨rfl, trivial, rfl⟩, rfl, ⟨_, rfl⟩, rfl⟩
       · conv => whnf
         exact ⟨⟨j + 1, g⟩, ⟨[], ⟨rfl, trivial, rfl⟩, rfl, rfl, eq_i64 (by rw [nadd, nwrapi (by omega)]), trivial⟩, by show xs.length - (j + 1) < xs.length - j; omega⟩
     · conv => whnf
       exact ⟨(), [], ⟨rfl, trivial, rfl⟩, trivial⟩
   conv => whnf
   exact Or.inl ⟨⟨_, rfl⟩, rfl⟩
theorem zz7W (w0 : World) (h : Hd) {ma : Option Addr} {mn mc : Nat} : CallsA Tryz.prog w0 8 [.a (h.cells (.slice ma mn mc))] [] fun r H => (∃ t, r = .o (.c (.val (.bool t))) ∧ (t = true → h.mapping.size ≤ 2147483647)) ∧ H = [] := by
 refine callsA_of_ev c8_ ?_
 conv => whnf
 refine Or.inl ?_
 conv => whnf
 refine ⟨fun g => ?_, fun g => ?_⟩
 · conv => whnf
   exact Or.inr ⟨[], .o (.c (.val (.bool false))), [], ⟨rfl, trivial, rfl⟩, rfl, ⟨_, rfl, fun h => Bool.noConfusion h⟩, rfl⟩
 have g : h.mapping.size ≤ 2147483647 := gt_f g
 conv => whnf
 refine Or.inl ?_
 conv => whnf
 refine ⟨fun g1 => ?_, fun g1 => ?_⟩
 · conv => whnf
   exact Or.inr ⟨[], .o (.c (.val (.bool false))), [], ⟨rfl, trivial, rfl⟩, rfl, ⟨_, rfl, fun h => Bool.noConfusion h⟩, rfl⟩
 · conv => whnf
   exact Or.inr ⟨[], .o (.c (.val (.bool true))), [], ⟨rfl, trivial, rfl⟩, rfl, ⟨_, rfl, fun _ => g⟩, rfl⟩
structure StrOk (h : Hd) (xs : List (Pg × Value)) : Prop where
 hd : h.text.2 = 1
 ok : ∀ x ∈ xs, x.1.okW
 len : xs.length ≤ 20
 siz : (encAll (xs.map Prod.fst)).length ≤ 20000
theorem lStreamW (w0 : World) (h : Hd) (hr : h.rate < 4294967296) (hi : ∀ x ∈ [h.ver, h.ch, h.map, h.skip, h.gain, h.str, h.cou], -9223372036854775808 ≤ x ∧ x < 9223372036854775808) (hm : h.mapping.size ≤ 2147483647)
   {ma : Option Addr} {mn mc : Nat} {v : Value} {xs : List (Pg × Value)} (hv : pgsAt w0 v xs) (hw : wtx xs ≤ 1073741824) :
   CallsA Tryz.prog w0 10 [.a (h.cells (.slice ma mn mc)), .c (.val v)] [] fun r H =>
     (StrOk h xs ∧ r = .t [.c (.val (.string (strOf (encAll h.pages)))), .c (.val (.string (strOf (encAll (xs.map Prod.fst))))), .c (.val (.bool true))] ∧ H = []) ∨
     ((∃ a b, r = .t [.c (.val (.string a)), .c (.val (.string b)), .c (.val (.bool false))]) ∧ H = []) := by
 have hlen := wts_len (xs.map Prod.fst)
 rw [List.length_map] at hlen
 have hw2 : wts (xs.map Prod.fst) ≤ 1073741824 := hw
 refine callsA_of_ev c10_ ?_
 conv => whnf
 refine Or.inr ⟨Unit, fun _ => ⟨[(1, .o (.c (.val v))), (2, .o (.c (.ptr 0 0)))], [.cells 25 (h.cells (.slice ma mn mc))]⟩, ?_, fun _ => ?_⟩
 · rcases hv with ⟨rfl, rfl⟩ | ⟨a, c, rfl, hc, hb⟩
   · conv => whnf
     refine ⟨Unit, fun _ => ⟨[(1, .o (.c (.val (.slice none 0 0)))), (2, .o (.c (.ptr 0 0))), (12, .o (.c (.val (.int .i64 ((0 : Nat) : Int))))), (13, .o (.c (.val (.int .i64 ((0 : Nat) : Int)))))], [.cells 25 (h.cells (.slice ma mn mc))]⟩, fun _ => 0, ⟨(), [0], ⟨rfl, ⟨rfl, rfl, trivial⟩, rfl⟩, rfl, rfl, rfl, rfl, trivial⟩, fun _ => ?_⟩
     conv => whnf
     refine ⟨fun g => zF g, fun _ => ?_⟩
     conv => whnf
     exact ⟨(), [0], ⟨rfl, ⟨rfl, rfl, trivial⟩, rfl⟩, rfl, rfl, trivial⟩
   · conv => whnf
     refine ⟨{j : Nat // j ≤ xs.length}, fun ⟨j, _⟩ => ⟨[(1, .o (.c (.val (.slice (some a) xs.length c)))), (2, .o (.c (.ptr 0 0))), (11, .o (.c (.val (.slice (some a) xs.length c)))), (12, .o (.c (.val (.int .i64 (xs.length : Nat))))), (13, .o (.c (.val (.int .i64 (j : Nat)))))], [.cells 25 (h.cells (.slice ma mn mc))]⟩, fun j => xs.length - j.1, ⟨⟨0, Nat.zero_le _⟩, [0], ⟨rfl, ⟨rfl, rfl, trivial⟩, rfl⟩, rfl, rfl, rfl, rfl, rfl, trivial⟩, fun ⟨j, hj⟩ => ?_⟩
     conv => whnf
     refine ⟨fun g => ?_, fun g => ?_⟩
     · have g : j < xs.length := lt_t g
       obtain ⟨⟨p, pv⟩, hx⟩ : ∃ x, xs[j]? = some x := ⟨_, List.getElem?_eq_getElem g⟩
       have hcl := hb j _ hx
       simp only at hcl
       conv => whnf
       refine Or.inl ?_
       conv => whnf
       refine ⟨⟨Int.natCast_nonneg j, Int.ofNat_lt.2 g⟩, ?_⟩
       conv => whnf
       refine ⟨.int .u32 (p.ser : Nat), ?_⟩
       conv => whnf
       refine ⟨hcl.c0, ?_⟩
       conv => whnf
       refine ⟨rfl, ?_⟩
       conv => whnf
       refine ⟨.int .u32 (p.seq : Nat), ?_⟩
       conv => whnf
       refine ⟨hcl.c1, ?_⟩
       conv => whnf
       refine ⟨rfl, ?_⟩
       conv => whnf
       refine ⟨.int .u64 (p.gran : Nat), ?_⟩
       conv => whnf
       refine ⟨hcl.c2, ?_⟩
       conv => whnf
       refine ⟨rfl, ?_⟩
       conv => whnf
       refine ⟨.int .i64 p.flags, ?_⟩
       conv => whnf
       refine ⟨hcl.c3, ?_⟩
       conv => whnf
       refine ⟨rfl, ?_⟩
       conv => whnf
       refine ⟨pv, ?_⟩
       conv => whnf
       refine ⟨hcl.c4, ?_⟩
       conv => whnf
       refine ⟨hcl.one, ?_⟩
       conv => whnf
       refine ⟨.bool p.more, ?_⟩
       conv => whnf
       refine ⟨hcl.c5, ?_⟩
       conv => whnf
       refine ⟨rfl, ?_⟩
       conv => whnf
       refine ⟨fun g1 => ?_, fun g1 => ?_⟩
       · conv => whnf
         exact Or.inr ⟨[], .t [.c (.val (.string (ByteArray.mk #[]))), .c (.val (.string (ByteArray.mk #[]))), .c (.val (.bool false))], [], ⟨rfl, trivial, rfl⟩, rfl, .inr ⟨⟨_, _, rfl⟩, rfl⟩⟩
       · conv => whnf
         exact ⟨⟨j + 1, g⟩, ⟨[0], ⟨rfl, ⟨rfl, rfl, trivial⟩, rfl⟩, rfl, rfl, rfl, rfl, eq_i64 (by rw [nadd, nwrapi (by omega)]), trivial⟩, by show xs.length - (j + 1) < xs.length - j; omega⟩
     · conv => whnf
       exact ⟨(), [0], ⟨rfl, ⟨rfl, rfl, trivial⟩, rfl⟩, rfl, rfl, trivial⟩
 have hln : ∃ a c, v = .slice a xs.length c := by
   rcases hv with ⟨rfl, rfl⟩ | ⟨a, c, rfl, _⟩
   · exact ⟨none, 0, rfl⟩
   · exact ⟨_, _, rfl⟩
 obtain ⟨sa, sc, rfl⟩ := hln
 conv => whnf
 refine cL0 (headWriteW w0 h hr hi hm) ?_
 rintro _ _ (⟨rfl, ht, rfl, rfl⟩ | ⟨rfl, rfl⟩)
 · conv => whnf
   refine cL0 (oggWriteW w0 hv hw) ?_
   rintro _ _ (⟨hok, rfl, rfl⟩ | ⟨hno, rfl, rfl⟩)
   · conv => whnf
     refine ⟨fun _ => ?_, fun g => zT g⟩
     conv => whnf
     refine ⟨fun _ => ?_, fun g => zT g⟩
     conv => whnf
     refine ⟨fun g => ?_, fun g => ?_⟩
     · have g : xs.length ≤ 20 := le_t g
       conv => whnf
       by_cases hs : (encAll (xs.map Prod.fst)).length ≤ 20000
       · have hd : decide ((((strOf (encAll (xs.map Prod.fst))).size : Nat) : Int) ≤ ((20000 : Nat) : Int)) = true := by
           rw [strOf_siz]
           exact decide_eq_true (by omega)
         rw [hd]
         exact Or.inr ⟨[], .t [.c (.val (.string (strOf (encAll h.pages)))), .c (.val (.string (strOf (encAll (xs.map Prod.fst))))), .c (.val (.bool true))], [], ⟨rfl, trivial, rfl⟩, rfl, .inl ⟨⟨ht, hok, g, hs⟩, rfl, rfl⟩⟩
       · have hd : decide ((((strOf (encAll (xs.map Prod.fst))).size : Nat) : Int) ≤ ((20000 : Nat) : Int)) = false := by
           rw [strOf_siz]
           exact decide_eq_false (by omega)
         rw [hd]
         exact Or.inr ⟨[], .t [.c (.val (.string (strOf (encAll h.pages)))), .c (.val (.string (strOf (encAll (xs.map Prod.fst))))), .c (.val (.bool false))], [], ⟨rfl, trivial, rfl⟩, rfl, .inr ⟨⟨_, _, rfl⟩, rfl⟩⟩
     · conv => whnf
       exact Or.inr ⟨[], .t [.c (.val (.string (strOf (encAll h.pages)))), .c (.val (.string (strOf (encAll (xs.map Prod.fst))))), .c (.val (.bool false))], [], ⟨rfl, trivial, rfl⟩, rfl, .inr ⟨⟨_, _, rfl⟩, rfl⟩⟩
   · conv => whnf
     refine ⟨fun _ => ?_, fun g => zT g⟩
     conv => whnf
     refine ⟨fun g => zF g, fun _ => ?_⟩
     conv => whnf
     exact Or.inr ⟨[], .t [.c (.val (.string (strOf (encAll h.pages)))), .c (.val (.string (ByteArray.mk #[]))), .c (.val (.bool false))], [], ⟨rfl, trivial, rfl⟩, rfl, .inr ⟨⟨_, _, rfl⟩, rfl⟩⟩
 · conv => whnf
   refine cL0 (oggWriteW w0 hv hw) ?_
   rintro _ _ (⟨hok, rfl, rfl⟩ | ⟨hno, rfl, rfl⟩)
   · conv => whnf
     refine ⟨fun g => zF g, fun _ => ?_⟩
     conv => whnf
     exact Or.inr ⟨[], .t [.c (.val (.string (ByteArray.mk #[]))), .c (.val (.string (strOf (encAll (xs.map Prod.fst))))), .c (.val (.bool false))], [], ⟨rfl, trivial, rfl⟩, rfl, .inr ⟨⟨_, _, rfl⟩, rfl⟩⟩
   · conv => whnf
     refine ⟨fun g => zF g, fun _ => ?_⟩
     conv => whnf
     exact Or.inr ⟨[], .t [.c (.val (.string (ByteArray.mk #[]))), .c (.val (.string (ByteArray.mk #[]))), .c (.val (.bool false))], [], ⟨rfl, trivial, rfl⟩, rfl, .inr ⟨⟨_, _, rfl⟩, rfl⟩⟩
end Go.Proofs.YtokkphocaloelaaGreatDoor

end
section
namespace Go.Proofs.YtokkphocaloelaaGreatDoor
open Go Go.Vc
set_option maxRecDepth 100000
set_option maxHeartbeats 8000000

def strsL (l : List (List Int)) : List ByteArray := l.map strOf
theorem full_get : ∀ (n : Nat) (x : List Int) (j : Nat), j < n → (full n x)[j]? = some ((x.drop (255 * j)).take 255)
 | 0, _, _, h => absurd h (Nat.not_lt_zero _)
 | n + 1, x, 0, _ => rfl
 | n + 1, x, j + 1, h => by
   rw [full, List.getElem?_cons_succ, full_get n (x.drop 255) j (by omega), List.drop_drop, show 255 + 255 * j = 255 * (j + 1) by omega]
theorem lc_get {x : List Int} {j : Nat} (h : j < x.length / 255) : (lc x)[j]? = some ((x.drop (255 * j)).take 255) := full_get _ x j h
theorem lc_len (x : List Int) : (lc x).length = x.length / 255 := by
 have := congrArg List.length (lenI_lc x)
 unfold lenI at this
 rw [List.length_map, List.length_replicate] at this
 exact this
theorem lc_step {X : List Int} {j : Nat} {O : List ByteArray} (h : j < X.length / 255) : O ++ strsL ((lc X).take (j + 1)) = (O ++ strsL ((lc X).take j)) ++ [strOf ((X.drop (255 * j)).take 255)] := by
 rw [List.take_add_one, lc_get h]
 unfold strsL
 rw [List.map_append, List.append_assoc]
 rfl
def lsV (i : Nat) (l : List ByteArray) : CV := match l with
 | [] => .val (.slice none 0 0)
 | _ :: _ => .vec i l.length
def lsH (l : List ByteArray) : List Blk := match l with
 | [] => []
 | _ :: _ => [strB l]
def lcE (i k m : Nat) (out : List ByteArray) : Env := [(1, .o (.c (.ptr 1 0))), (3, .o (.c (lsV 2 out))), (7, .o (.c (.mem 0 k m))), (8, .o (.c (.val (.int .i64 (m : Nat))))), (9, .o (.c (.val (.int .i64 (i : Nat)))))]
def lcH (xss : List (List ByteArray)) (p : Pg) (k : Nat) (out : List ByteArray) : List Blk := .fam 9 encStr 1 xss :: .cells 57 (pgM p 0 k) :: lsH out
theorem lacedN (w0 : World) {p : Pg} (hp : p.parts = []) : CallsA Tryz.prog w0 37 [.a (pgC p 0)] [] fun r H => r = .o (.c (lsV 0 (strsL p.segs))) ∧ H = [] := by
 obtain ⟨a, q, c, d, parts, m⟩ := p
 obtain rfl : parts = [] := hp
 refine callsA_of_ev c37_ ?_
 conv => whnf
 refine Or.inl ?_
 conv => whnf
 refine ⟨Unit, fun _ => ⟨[(3, .o (.c (.val (.slice none 0 0)))), (8, .o (.c (.val (.int .i64 ((0 : Nat) : Int))))), (9, .o (.c (.val (.int .i64 ((0 : Nat) : Int)))))], []⟩, fun _ => 0, ⟨(), [], ⟨rfl, trivial, rfl⟩, rfl, rfl, rfl, trivial⟩, fun _ => ?_⟩
 conv => whnf
 refine ⟨fun g => zF g, fun _ => ?_⟩
 conv => whnf
 exact Or.inl ⟨rfl, rfl⟩
theorem lacedC (w0 : World) {p : Pg} {xss : List (List ByteArray)} {k : Nat} (_hp : p.parts ≠ []) (hk : xss[k]? = some p.parts) (hz : p.wt ≤ 1073741824) :
   CallsA Tryz.prog w0 37 [.a (pgM p 0 k)] [.fam 9 encStr 1 xss] fun r H => r = .o (.c (lsV 1 (strsL p.segs))) ∧ H = .fam 9 encStr 1 xss :: lsH (strsL p.segs) := by
 obtain ⟨S, hS⟩ : ∃ S, S = strsL p.segs := ⟨_, rfl⟩
 rw [← hS]
 have hSl : S.length ≤ 2147483648 := by
   rw [hS]
   unfold strsL
   rw [List.length_map]
   have h1 : p.segs.length ≤ p.pts.length + p.pts.flatten.length := lace_len _ _
   have h2 : p.pts.flatten.length = psz p.parts := psz_pts _
   have h3 : p.pts.length = p.parts.length := List.length_map ..
   unfold Pg.wt at hz
   omega
 have hpl : p.parts.length ≤ 1073741824 := by unfold Pg.wt at hz; omega
 refine callsA_of_ev c37_ ?_
 conv => whnf
 refine Or.inr ⟨Unit, fun _ => ⟨[(3, .o (.c (lsV 1 S)))], .fam 9 encStr 1 xss :: lsH S⟩, ?_, fun _ => ?_⟩
 · conv => whnf
   refine ⟨{x : Nat × List ByteArray // x.1 ≤ p.parts.length ∧ S = x.2 ++ strsL (lace p.more (p.pts.drop x.1))}, fun ⟨⟨i, out⟩, _⟩ => ⟨lcE i k p.parts.length out, lcH xss p k out⟩, fun x => p.parts.length - x.1.1, ⟨⟨(0, []), Nat.zero_le _, hS⟩, [0, 1], ⟨rfl, ⟨rfl, rfl, rfl, rfl, trivial⟩, rfl⟩, rfl, rfl, rfl, rfl, rfl, trivial⟩, fun ⟨⟨i, out⟩, hi, ho⟩ => ?_⟩
   simp only at hi ho
   cases out with
   | nil =>
     conv => whnf
     refine ⟨fun g => ?_, fun g => ?_⟩
     · have g : i < p.parts.length := lt_t g
       obtain ⟨s, hsx⟩ : ∃ s, p.parts[i]? = some s := ⟨_, List.getElem?_eq_getElem g⟩
       obtain ⟨X, hX⟩ : ∃ X, X = bytesOf s := ⟨_, rfl⟩
       have hsX : s = strOf X := by rw [hX, str_bytes]
       have hXb : Byt X := by rw [hX]; exact byt_bytes s
       have hXl : X.length = s.size := by rw [hX]; exact bytesOf_len s
       have hXs : X.length ≤ 1073741824 := by
         have := psz_mem (List.mem_of_getElem? hsx)
         unfold Pg.wt at hz
         omega
       have hpt : p.pts[i]? = some X := by unfold Pg.pts; rw [List.getElem?_map, hsx, hX]; rfl
       have hS2 : S = [] ++ (strsL (lc X) ++ strsL (if p.pts.drop (i + 1) = [] ∧ p.more = true then [] else [lr X]) ++ strsL (lace p.more (p.pts.drop (i + 1)))) := by
         rw [ho, show p.pts.drop i = X :: p.pts.drop (i + 1) from List.drop_eq_getElem?_toList_append.trans (by rw [hpt]; rfl), lace]
         unfold strsL
         rw [List.map_append, List.map_append]
       conv => whnf
       refine Or.inl ?_
       conv => whnf
       refine ⟨⟨Int.natCast_nonneg i, Int.ofNat_lt.2 g⟩, ?_⟩
       conv => whnf
       refine ⟨p.parts, s, hk, hsx, ?_⟩
       rw [hsX]
       conv => whnf
       refine Or.inr ⟨Unit, fun _ => ⟨(4, .o (.c (.val (.int .i64 (i : Nat))))) :: (5, .o (.c (.val (.string (strOf (lr X)))))) :: lcE i k p.parts.length ([] ++ strsL (lc X)), lcH xss p k ([] ++ strsL (lc X))⟩, ?_, fun _ => ?_⟩
       · conv => whnf
         refine ⟨{x : Nat × List ByteArray // x.1 ≤ X.length / 255 ∧ x.2 = [] ++ strsL ((lc X).take x.1)}, fun ⟨⟨j, oj⟩, _⟩ => ⟨(4, .o (.c (.val (.int .i64 (i : Nat))))) :: (5, .o (.c (.val (.string (strOf (X.drop (255 * j))))))) :: lcE i k p.parts.length oj, lcH xss p k oj⟩, fun x => X.length - 255 * x.1.1,
           ⟨⟨(0, []), Nat.zero_le _, (List.append_nil _).symm⟩, [0, 1], ⟨rfl, ⟨rfl, rfl, rfl, rfl, trivial⟩, rfl⟩, rfl, rfl, rfl, rfl, rfl, rfl, rfl, trivial⟩, fun ⟨⟨j, oj⟩, hj, hoj⟩ => ?_⟩
         simp only at hj hoj
         have hojl : oj.length ≤ S.length := by
           rw [hoj, hS2]
           unfold strsL
           simp only [List.length_append, List.length_map, List.length_take]
           omega
         cases oj with
         | nil =>
           conv => whnf
           rw [strOf_siz, List.length_drop]
           refine ⟨fun g1 => ?_, fun g1 => ?_⟩
           · have g1 : 255 ≤ X.length - 255 * j := ge_t g1
             have hjn : j < X.length / 255 := by omega
             conv => whnf
             have hex2 : (strOf (X.drop (255 * j))).extract ((0 : Int)).toNat (((255 : Nat) : Int)).toNat = strOf ((X.drop (255 * j)).take 255) := by
               show (strOf (X.drop (255 * j))).extract 0 255 = _
               rw [ext_str (hXb.drop _), List.drop_zero]
             have hex3 : (strOf (X.drop (255 * j))).extract (((255 : Nat) : Int)).toNat ((((strOf (X.drop (255 * j))).size : Nat) : Int)).toNat = strOf (X.drop (255 * (j + 1))) := by
               show (strOf (X.drop (255 * j))).extract 255 (strOf (X.drop (255 * j))).size = _
               rw [ext_str (hXb.drop _), strOf_siz, List.take_of_length_le (Nat.le_refl _), List.drop_drop, show 255 * j + 255 = 255 * (j + 1) by omega]
             refine ⟨⟨by omega, by omega, by rw [strOf_siz, List.length_drop]; omega⟩, ?_⟩
             rw [hex2]
             conv => whnf
             refine ⟨by omega, ByteArray, encStr, [], [strOf ((X.drop (255 * j)).take 255)], fun _ => rfl, ⟨rfl, rfl, rfl⟩, by simp only [List.length_cons, List.length_nil]; omega, by simp only [List.length_cons, List.length_nil]; omega, ?_⟩
             conv => whnf
             refine ⟨⟨by omega, by rw [strOf_siz, List.length_drop]; omega, Int.le_refl _⟩, ?_⟩
             rw [hex3]
             conv => whnf
             refine ⟨⟨(j + 1, [strOf ((X.drop (255 * j)).take 255)]), hjn, ?_⟩, ⟨[0, 1, 3], ⟨rfl, ⟨rfl, rfl, rfl, rfl, rfl, rfl, trivial⟩, rfl⟩, rfl, rfl, rfl, rfl, rfl, rfl, rfl, trivial⟩, by show X.length - 255 * (j + 1) < X.length - 255 * j; omega⟩
             show [strOf ((X.drop (255 * j)).take 255)] = [] ++ strsL ((lc X).take (j + 1))
             rw [lc_step hjn, ← hoj]
             rfl

           · have g1 : X.length - 255 * j < 255 := ge_f g1
             obtain rfl : j = X.length / 255 := by omega
             have hall : (lc X).take (X.length / 255) = lc X := List.take_of_length_le (Nat.le_of_eq (lc_len X))
             rw [hall] at hoj
             conv => whnf
             rw [← hoj]
             exact ⟨(), [0, 1], ⟨rfl, ⟨rfl, rfl, rfl, rfl, trivial⟩, rfl⟩, rfl, rfl, rfl, rfl, rfl, rfl, rfl, trivial⟩

         | cons o1 or =>
           have hol : (o1 :: or).length = or.length + 1 := rfl
           conv => whnf
           rw [strOf_siz, List.length_drop]
           refine ⟨fun g1 => ?_, fun g1 => ?_⟩
           · have g1 : 255 ≤ X.length - 255 * j := ge_t g1
             have hjn : j < X.length / 255 := by omega
             conv => whnf
             have hex2 : (strOf (X.drop (255 * j))).extract ((0 : Int)).toNat (((255 : Nat) : Int)).toNat = strOf ((X.drop (255 * j)).take 255) := by
               show (strOf (X.drop (255 * j))).extract 0 255 = _
               rw [ext_str (hXb.drop _), List.drop_zero]
             have hex3 : (strOf (X.drop (255 * j))).extract (((255 : Nat) : Int)).toNat ((((strOf (X.drop (255 * j))).size : Nat) : Int)).toNat = strOf (X.drop (255 * (j + 1))) := by
               show (strOf (X.drop (255 * j))).extract 255 (strOf (X.drop (255 * j))).size = _
               rw [ext_str (hXb.drop _), strOf_siz, List.take_of_length_le (Nat.le_refl _), List.drop_drop, show 255 * j + 255 = 255 * (j + 1) by omega]
             refine ⟨⟨by omega, by omega, by rw [strOf_siz, List.length_drop]; omega⟩, ?_⟩
             rw [hex2]
             conv => whnf
             refine ⟨rfl, [strOf ((X.drop (255 * j)).take 255)], ⟨rfl, rfl, rfl⟩, by rw [List.length_append, List.length_singleton]; omega, by rw [List.length_append, List.length_singleton]; omega, ?_⟩
             conv => whnf
             refine ⟨⟨by omega, by rw [strOf_siz, List.length_drop]; omega, Int.le_refl _⟩, ?_⟩
             rw [hex3]
             conv => whnf
             refine ⟨⟨(j + 1, o1 :: (or ++ [strOf ((X.drop (255 * j)).take 255)])), hjn, ?_⟩, ⟨[0, 1, 4], ⟨rfl, ⟨rfl, rfl, rfl, rfl, rfl, rfl, trivial⟩, rfl⟩, rfl, rfl, rfl, rfl, rfl, rfl, rfl, trivial⟩, by show X.length - 255 * (j + 1) < X.length - 255 * j; omega⟩
             show o1 :: (or ++ [strOf ((X.drop (255 * j)).take 255)]) = [] ++ strsL ((lc X).take (j + 1))
             rw [lc_step hjn, ← hoj]
             rfl

           · have g1 : X.length - 255 * j < 255 := ge_f g1
             obtain rfl : j = X.length / 255 := by omega
             have hall : (lc X).take (X.length / 255) = lc X := List.take_of_length_le (Nat.le_of_eq (lc_len X))
             rw [hall] at hoj
             conv => whnf
             rw [← hoj]
             exact ⟨(), [0, 1, 2], ⟨rfl, ⟨rfl, rfl, rfl, rfl, rfl, rfl, trivial⟩, rfl⟩, rfl, rfl, rfl, rfl, rfl, rfl, rfl, trivial⟩

       · obtain ⟨o2, ho2⟩ : ∃ o2 : List ByteArray, o2 = [] ++ strsL (lc X) := ⟨_, rfl⟩
         rw [← ho2]
         have hw3 : IntKind.i64.wrap (((p.parts.length : Nat) : Int) - ((1 : Nat) : Int)) = ((p.parts.length - 1 : Nat) : Int) := by rw [IntKind.wrap_i64]; omega
         have hgo : ¬ (i + 1 = p.parts.length ∧ p.more = true) → S = (o2 ++ [strOf (lr X)]) ++ strsL (lace p.more (p.pts.drop (i + 1))) := by
           intro h1
           have hne : ¬ (p.pts.drop (i + 1) = [] ∧ p.more = true) := by
             rintro ⟨h2, h3⟩
             refine h1 ⟨?_, h3⟩
             have := congrArg List.length h2
             rw [List.length_drop, List.length_nil] at this
             unfold Pg.pts at this
             rw [List.length_map] at this
             omega
           rw [hS2, if_neg hne, ho2]
           simp only [List.append_assoc]
           rfl
         have hstop : i + 1 = p.parts.length ∧ p.more = true → S = o2 := by
           rintro ⟨h1, h2⟩
           have hn : p.pts.drop (i + 1) = [] := List.drop_of_length_le (by unfold Pg.pts; rw [List.length_map]; omega)
           rw [hS2, if_pos ⟨hn, h2⟩, hn, ho2]
           show _ ++ (_ ++ [] ++ []) = _
           rw [List.append_nil, List.append_nil]
         have ho2l : o2.length ≤ S.length := by
           rw [ho2, hS2]
           simp only [List.length_append]
           omega
         cases o2 with
         | nil =>
           conv => whnf
           rw [hw3]
           refine ⟨fun g1 => ?_, fun g1 => ?_⟩
           · have g1 : i < p.parts.length - 1 := lt_t g1
             have h1 : ¬ (i + 1 = p.parts.length ∧ p.more = true) := fun c => by omega
             conv => whnf
             conv => whnf
             refine ⟨by omega, ByteArray, encStr, [], [strOf (lr X)], fun _ => rfl, ⟨rfl, rfl, rfl⟩, by simp only [List.length_cons, List.length_nil]; omega, by simp only [List.length_cons, List.length_nil]; omega, ?_⟩
             conv => whnf
             refine ⟨⟨(i + 1, [strOf (lr X)]), g, ?_⟩, ⟨[0, 1, 3], ⟨rfl, ⟨rfl, rfl, rfl, rfl, rfl, rfl, trivial⟩, rfl⟩, rfl, rfl, rfl, rfl, eq_i64 (by rw [nadd, nwrapi (by omega)]), trivial⟩, by show p.parts.length - (i + 1) < p.parts.length - i; omega⟩
             exact hgo h1

           · have g1 : p.parts.length - 1 ≤ i := lt_f g1
             conv => whnf
             refine ⟨fun g2 => ?_, fun g2 => ?_⟩
             · have h1 : ¬ (i + 1 = p.parts.length ∧ p.more = true) := fun c => by rw [show (Pg.more p) = true from c.2] at g2; exact Bool.noConfusion g2
               conv => whnf
               conv => whnf
               refine ⟨by omega, ByteArray, encStr, [], [strOf (lr X)], fun _ => rfl, ⟨rfl, rfl, rfl⟩, by simp only [List.length_cons, List.length_nil]; omega, by simp only [List.length_cons, List.length_nil]; omega, ?_⟩
               conv => whnf
               refine ⟨⟨(i + 1, [strOf (lr X)]), g, ?_⟩, ⟨[0, 1, 3], ⟨rfl, ⟨rfl, rfl, rfl, rfl, rfl, rfl, trivial⟩, rfl⟩, rfl, rfl, rfl, rfl, eq_i64 (by rw [nadd, nwrapi (by omega)]), trivial⟩, by show p.parts.length - (i + 1) < p.parts.length - i; omega⟩
               exact hgo h1

             · have h1 : i + 1 = p.parts.length ∧ p.more = true := ⟨by omega, by simpa using g2⟩
               conv => whnf
               refine ⟨⟨(i + 1, []), g, ?_⟩, ⟨[0, 1], ⟨rfl, ⟨rfl, rfl, rfl, rfl, trivial⟩, rfl⟩, rfl, rfl, rfl, rfl, eq_i64 (by rw [nadd, nwrapi (by omega)]), trivial⟩, by show p.parts.length - (i + 1) < p.parts.length - i; omega⟩
               have hn : p.pts.drop (i + 1) = [] := List.drop_of_length_le (by unfold Pg.pts; rw [List.length_map]; omega)
               show S = ([]) ++ strsL (lace p.more (p.pts.drop (i + 1)))
               rw [hn]
               exact (hstop h1).trans (List.append_nil _).symm

         | cons o1 or =>
           have hol : (o1 :: or).length = or.length + 1 := rfl
           conv => whnf
           rw [hw3]
           refine ⟨fun g1 => ?_, fun g1 => ?_⟩
           · have g1 : i < p.parts.length - 1 := lt_t g1
             have h1 : ¬ (i + 1 = p.parts.length ∧ p.more = true) := fun c => by omega
             conv => whnf
             conv => whnf
             refine ⟨rfl, [strOf (lr X)], ⟨rfl, rfl, rfl⟩, by rw [List.length_append, List.length_singleton]; omega, by rw [List.length_append, List.length_singleton]; omega, ?_⟩
             conv => whnf
             refine ⟨⟨(i + 1, o1 :: (or ++ [strOf (lr X)])), g, ?_⟩, ⟨[0, 1, 4], ⟨rfl, ⟨rfl, rfl, rfl, rfl, rfl, rfl, trivial⟩, rfl⟩, rfl, rfl, rfl, rfl, eq_i64 (by rw [nadd, nwrapi (by omega)]), trivial⟩, by show p.parts.length - (i + 1) < p.parts.length - i; omega⟩
             exact hgo h1

           · have g1 : p.parts.length - 1 ≤ i := lt_f g1
             conv => whnf
             refine ⟨fun g2 => ?_, fun g2 => ?_⟩
             · have h1 : ¬ (i + 1 = p.parts.length ∧ p.more = true) := fun c => by rw [show (Pg.more p) = true from c.2] at g2; exact Bool.noConfusion g2
               conv => whnf
               conv => whnf
               refine ⟨rfl, [strOf (lr X)], ⟨rfl, rfl, rfl⟩, by rw [List.length_append, List.length_singleton]; omega, by rw [List.length_append, List.length_singleton]; omega, ?_⟩
               conv => whnf
               refine ⟨⟨(i + 1, o1 :: (or ++ [strOf (lr X)])), g, ?_⟩, ⟨[0, 1, 4], ⟨rfl, ⟨rfl, rfl, rfl, rfl, rfl, rfl, trivial⟩, rfl⟩, rfl, rfl, rfl, rfl, eq_i64 (by rw [nadd, nwrapi (by omega)]), trivial⟩, by show p.parts.length - (i + 1) < p.parts.length - i; omega⟩
               exact hgo h1

             · have h1 : i + 1 = p.parts.length ∧ p.more = true := ⟨by omega, by simpa using g2⟩
               conv => whnf
               refine ⟨⟨(i + 1, o1 :: or), g, ?_⟩, ⟨[0, 1, 2], ⟨rfl, ⟨rfl, rfl, rfl, rfl, rfl, rfl, trivial⟩, rfl⟩, rfl, rfl, rfl, rfl, eq_i64 (by rw [nadd, nwrapi (by omega)]), trivial⟩, by show p.parts.length - (i + 1) < p.parts.length - i; omega⟩
               have hn : p.pts.drop (i + 1) = [] := List.drop_of_length_le (by unfold Pg.pts; rw [List.length_map]; omega)
               show S = (o1 :: or) ++ strsL (lace p.more (p.pts.drop (i + 1)))
               rw [hn]
               exact (hstop h1).trans (List.append_nil _).symm

     · have g : p.parts.length ≤ i := lt_f g
       have hdn : p.pts.drop i = [] := List.drop_of_length_le (by unfold Pg.pts; rw [List.length_map]; exact g)
       rw [hdn] at ho
       have ho : S = [] := by rw [ho]; exact List.append_nil _
       conv => whnf
       rw [ho]
       exact ⟨(), [0], ⟨rfl, ⟨rfl, rfl, trivial⟩, rfl⟩, rfl, trivial⟩
   | cons o0 ol =>
     conv => whnf
     refine ⟨fun g => ?_, fun g => ?_⟩
     · have g : i < p.parts.length := lt_t g
       obtain ⟨s, hsx⟩ : ∃ s, p.parts[i]? = some s := ⟨_, List.getElem?_eq_getElem g⟩
       obtain ⟨X, hX⟩ : ∃ X, X = bytesOf s := ⟨_, rfl⟩
       have hsX : s = strOf X := by rw [hX, str_bytes]
       have hXb : Byt X := by rw [hX]; exact byt_bytes s
       have hXl : X.length = s.size := by rw [hX]; exact bytesOf_len s
       have hXs : X.length ≤ 1073741824 := by
         have := psz_mem (List.mem_of_getElem? hsx)
         unfold Pg.wt at hz
         omega
       have hpt : p.pts[i]? = some X := by unfold Pg.pts; rw [List.getElem?_map, hsx, hX]; rfl
       have hS2 : S = (o0 :: ol) ++ (strsL (lc X) ++ strsL (if p.pts.drop (i + 1) = [] ∧ p.more = true then [] else [lr X]) ++ strsL (lace p.more (p.pts.drop (i + 1)))) := by
         rw [ho, show p.pts.drop i = X :: p.pts.drop (i + 1) from List.drop_eq_getElem?_toList_append.trans (by rw [hpt]; rfl), lace]
         unfold strsL
         rw [List.map_append, List.map_append]
       conv => whnf
       refine Or.inl ?_
       conv => whnf
       refine ⟨⟨Int.natCast_nonneg i, Int.ofNat_lt.2 g⟩, ?_⟩
       conv => whnf
       refine ⟨p.parts, s, hk, hsx, ?_⟩
       rw [hsX]
       conv => whnf
       refine Or.inr ⟨Unit, fun _ => ⟨(4, .o (.c (.val (.int .i64 (i : Nat))))) :: (5, .o (.c (.val (.string (strOf (lr X)))))) :: lcE i k p.parts.length ((o0 :: ol) ++ strsL (lc X)), lcH xss p k ((o0 :: ol) ++ strsL (lc X))⟩, ?_, fun _ => ?_⟩
       · conv => whnf
         refine ⟨{x : Nat × List ByteArray // x.1 ≤ X.length / 255 ∧ x.2 = (o0 :: ol) ++ strsL ((lc X).take x.1)}, fun ⟨⟨j, oj⟩, _⟩ => ⟨(4, .o (.c (.val (.int .i64 (i : Nat))))) :: (5, .o (.c (.val (.string (strOf (X.drop (255 * j))))))) :: lcE i k p.parts.length oj, lcH xss p k oj⟩, fun x => X.length - 255 * x.1.1,
           ⟨⟨(0, (o0 :: ol)), Nat.zero_le _, (List.append_nil _).symm⟩, [0, 1, 2], ⟨rfl, ⟨rfl, rfl, rfl, rfl, rfl, rfl, trivial⟩, rfl⟩, rfl, rfl, rfl, rfl, rfl, rfl, rfl, trivial⟩, fun ⟨⟨j, oj⟩, hj, hoj⟩ => ?_⟩
         simp only at hj hoj
         have hojl : oj.length ≤ S.length := by
           rw [hoj, hS2]
           unfold strsL
           simp only [List.length_append, List.length_map, List.length_take]
           omega
         cases oj with
         | nil =>
           conv => whnf
           rw [strOf_siz, List.length_drop]
           refine ⟨fun g1 => ?_, fun g1 => ?_⟩
           · have g1 : 255 ≤ X.length - 255 * j := ge_t g1
             have hjn : j < X.length / 255 := by omega
             conv => whnf
             have hex2 : (strOf (X.drop (255 * j))).extract ((0 : Int)).toNat (((255 : Nat) : Int)).toNat = strOf ((X.drop (255 * j)).take 255) := by
               show (strOf (X.drop (255 * j))).extract 0 255 = _
               rw [ext_str (hXb.drop _), List.drop_zero]
             have hex3 : (strOf (X.drop (255 * j))).extract (((255 : Nat) : Int)).toNat ((((strOf (X.drop (255 * j))).size : Nat) : Int)).toNat = strOf (X.drop (255 * (j + 1))) := by
               show (strOf (X.drop (255 * j))).extract 255 (strOf (X.drop (255 * j))).size = _
               rw [ext_str (hXb.drop _), strOf_siz, List.take_of_length_le (Nat.le_refl _), List.drop_drop, show 255 * j + 255 = 255 * (j + 1) by omega]
             refine ⟨⟨by omega, by omega, by rw [strOf_siz, List.length_drop]; omega⟩, ?_⟩
             rw [hex2]
             conv => whnf
             refine ⟨by omega, ByteArray, encStr, [], [strOf ((X.drop (255 * j)).take 255)], fun _ => rfl, ⟨rfl, rfl, rfl⟩, by simp only [List.length_cons, List.length_nil]; omega, by simp only [List.length_cons, List.length_nil]; omega, ?_⟩
             conv => whnf
             refine ⟨⟨by omega, by rw [strOf_siz, List.length_drop]; omega, Int.le_refl _⟩, ?_⟩
             rw [hex3]
             conv => whnf
             refine ⟨⟨(j + 1, [strOf ((X.drop (255 * j)).take 255)]), hjn, ?_⟩, ⟨[0, 1, 3], ⟨rfl, ⟨rfl, rfl, rfl, rfl, rfl, rfl, trivial⟩, rfl⟩, rfl, rfl, rfl, rfl, rfl, rfl, rfl, trivial⟩, by show X.length - 255 * (j + 1) < X.length - 255 * j; omega⟩
             show [strOf ((X.drop (255 * j)).take 255)] = (o0 :: ol) ++ strsL ((lc X).take (j + 1))
             rw [lc_step hjn, ← hoj]
             rfl

           · have g1 : X.length - 255 * j < 255 := ge_f g1
             obtain rfl : j = X.length / 255 := by omega
             have hall : (lc X).take (X.length / 255) = lc X := List.take_of_length_le (Nat.le_of_eq (lc_len X))
             rw [hall] at hoj
             conv => whnf
             rw [← hoj]
             exact ⟨(), [0, 1], ⟨rfl, ⟨rfl, rfl, rfl, rfl, trivial⟩, rfl⟩, rfl, rfl, rfl, rfl, rfl, rfl, rfl, trivial⟩

         | cons o1 or =>
           have hol : (o1 :: or).length = or.length + 1 := rfl
           conv => whnf
           rw [strOf_siz, List.length_drop]
           refine ⟨fun g1 => ?_, fun g1 => ?_⟩
           · have g1 : 255 ≤ X.length - 255 * j := ge_t g1
             have hjn : j < X.length / 255 := by omega
             conv => whnf
             have hex2 : (strOf (X.drop (255 * j))).extract ((0 : Int)).toNat (((255 : Nat) : Int)).toNat = strOf ((X.drop (255 * j)).take 255) := by
               show (strOf (X.drop (255 * j))).extract 0 255 = _
               rw [ext_str (hXb.drop _), List.drop_zero]
             have hex3 : (strOf (X.drop (255 * j))).extract (((255 : Nat) : Int)).toNat ((((strOf (X.drop (255 * j))).size : Nat) : Int)).toNat = strOf (X.drop (255 * (j + 1))) := by
               show (strOf (X.drop (255 * j))).extract 255 (strOf (X.drop (255 * j))).size = _
               rw [ext_str (hXb.drop _), strOf_siz, List.take_of_length_le (Nat.le_refl _), List.drop_drop, show 255 * j + 255 = 255 * (j + 1) by omega]
             refine ⟨⟨by omega, by omega, by rw [strOf_siz, List.length_drop]; omega⟩, ?_⟩
             rw [hex2]
             conv => whnf
             refine ⟨rfl, [strOf ((X.drop (255 * j)).take 255)], ⟨rfl, rfl, rfl⟩, by rw [List.length_append, List.length_singleton]; omega, by rw [List.length_append, List.length_singleton]; omega, ?_⟩
             conv => whnf
             refine ⟨⟨by omega, by rw [strOf_siz, List.length_drop]; omega, Int.le_refl _⟩, ?_⟩
             rw [hex3]
             conv => whnf
             refine ⟨⟨(j + 1, o1 :: (or ++ [strOf ((X.drop (255 * j)).take 255)])), hjn, ?_⟩, ⟨[0, 1, 4], ⟨rfl, ⟨rfl, rfl, rfl, rfl, rfl, rfl, trivial⟩, rfl⟩, rfl, rfl, rfl, rfl, rfl, rfl, rfl, trivial⟩, by show X.length - 255 * (j + 1) < X.length - 255 * j; omega⟩
             show o1 :: (or ++ [strOf ((X.drop (255 * j)).take 255)]) = (o0 :: ol) ++ strsL ((lc X).take (j + 1))
             rw [lc_step hjn, ← hoj]
             rfl

           · have g1 : X.length - 255 * j < 255 := ge_f g1
             obtain rfl : j = X.length / 255 := by omega
             have hall : (lc X).take (X.length / 255) = lc X := List.take_of_length_le (Nat.le_of_eq (lc_len X))
             rw [hall] at hoj
             conv => whnf
             rw [← hoj]
             exact ⟨(), [0, 1, 2], ⟨rfl, ⟨rfl, rfl, rfl, rfl, rfl, rfl, trivial⟩, rfl⟩, rfl, rfl, rfl, rfl, rfl, rfl, rfl, trivial⟩

       · obtain ⟨o2, ho2⟩ : ∃ o2 : List ByteArray, o2 = (o0 :: ol) ++ strsL (lc X) := ⟨_, rfl⟩
         rw [← ho2]
         have hw3 : IntKind.i64.wrap (((p.parts.length : Nat) : Int) - ((1 : Nat) : Int)) = ((p.parts.length - 1 : Nat) : Int) := by rw [IntKind.wrap_i64]; omega
         have hgo : ¬ (i + 1 = p.parts.length ∧ p.more = true) → S = (o2 ++ [strOf (lr X)]) ++ strsL (lace p.more (p.pts.drop (i + 1))) := by
           intro h1
           have hne : ¬ (p.pts.drop (i + 1) = [] ∧ p.more = true) := by
             rintro ⟨h2, h3⟩
             refine h1 ⟨?_, h3⟩
             have := congrArg List.length h2
             rw [List.length_drop, List.length_nil] at this
             unfold Pg.pts at this
             rw [List.length_map] at this
             omega
           rw [hS2, if_neg hne, ho2]
           simp only [List.append_assoc]
           rfl
         have hstop : i + 1 = p.parts.length ∧ p.more = true → S = o2 := by
           rintro ⟨h1, h2⟩
           have hn : p.pts.drop (i + 1) = [] := List.drop_of_length_le (by unfold Pg.pts; rw [List.length_map]; omega)
           rw [hS2, if_pos ⟨hn, h2⟩, hn, ho2]
           show _ ++ (_ ++ [] ++ []) = _
           rw [List.append_nil, List.append_nil]
         have ho2l : o2.length ≤ S.length := by
           rw [ho2, hS2]
           simp only [List.length_append]
           omega
         cases o2 with
         | nil =>
           conv => whnf
           rw [hw3]
           refine ⟨fun g1 => ?_, fun g1 => ?_⟩
           · have g1 : i < p.parts.length - 1 := lt_t g1
             have h1 : ¬ (i + 1 = p.parts.length ∧ p.more = true) := fun c => by omega
             conv => whnf
             conv => whnf
             refine ⟨by omega, ByteArray, encStr, [], [strOf (lr X)], fun _ => rfl, ⟨rfl, rfl, rfl⟩, by simp only [List.length_cons, List.length_nil]; omega, by simp only [List.length_cons, List.length_nil]; omega, ?_⟩
             conv => whnf
             refine ⟨⟨(i + 1, [strOf (lr X)]), g, ?_⟩, ⟨[0, 1, 3], ⟨rfl, ⟨rfl, rfl, rfl, rfl, rfl, rfl, trivial⟩, rfl⟩, rfl, rfl, rfl, rfl, eq_i64 (by rw [nadd, nwrapi (by omega)]), trivial⟩, by show p.parts.length - (i + 1) < p.parts.length - i; omega⟩
             exact hgo h1

           · have g1 : p.parts.length - 1 ≤ i := lt_f g1
             conv => whnf
             refine ⟨fun g2 => ?_, fun g2 => ?_⟩
             · have h1 : ¬ (i + 1 = p.parts.length ∧ p.more = true) := fun c => by rw [show (Pg.more p) = true from c.2] at g2; exact Bool.noConfusion g2
               conv => whnf
               conv => whnf
               refine ⟨by omega, ByteArray, encStr, [], [strOf (lr X)], fun _ => rfl, ⟨rfl, rfl, rfl⟩, by simp only [List.length_cons, List.length_nil]; omega, by simp only [List.length_cons, List.length_nil]; omega, ?_⟩
               conv => whnf
               refine ⟨⟨(i + 1, [strOf (lr X)]), g, ?_⟩, ⟨[0, 1, 3], ⟨rfl, ⟨rfl, rfl, rfl, rfl, rfl, rfl, trivial⟩, rfl⟩, rfl, rfl, rfl, rfl, eq_i64 (by rw [nadd, nwrapi (by omega)]), trivial⟩, by show p.parts.length - (i + 1) < p.parts.length - i; omega⟩
               exact hgo h1

             · have h1 : i + 1 = p.parts.length ∧ p.more = true := ⟨by omega, by simpa using g2⟩
               conv => whnf
               refine ⟨⟨(i + 1, []), g, ?_⟩, ⟨[0, 1], ⟨rfl, ⟨rfl, rfl, rfl, rfl, trivial⟩, rfl⟩, rfl, rfl, rfl, rfl, eq_i64 (by rw [nadd, nwrapi (by omega)]), trivial⟩, by show p.parts.length - (i + 1) < p.parts.length - i; omega⟩
               have hn : p.pts.drop (i + 1) = [] := List.drop_of_length_le (by unfold Pg.pts; rw [List.length_map]; omega)
               show S = ([]) ++ strsL (lace p.more (p.pts.drop (i + 1)))
               rw [hn]
               exact (hstop h1).trans (List.append_nil _).symm

         | cons o1 or =>
           have hol : (o1 :: or).length = or.length + 1 := rfl
           conv => whnf
           rw [hw3]
           refine ⟨fun g1 => ?_, fun g1 => ?_⟩
           · have g1 : i < p.parts.length - 1 := lt_t g1
             have h1 : ¬ (i + 1 = p.parts.length ∧ p.more = true) := fun c => by omega
             conv => whnf
             conv => whnf
             refine ⟨rfl, [strOf (lr X)], ⟨rfl, rfl, rfl⟩, by rw [List.length_append, List.length_singleton]; omega, by rw [List.length_append, List.length_singleton]; omega, ?_⟩
             conv => whnf
             refine ⟨⟨(i + 1, o1 :: (or ++ [strOf (lr X)])), g, ?_⟩, ⟨[0, 1, 4], ⟨rfl, ⟨rfl, rfl, rfl, rfl, rfl, rfl, trivial⟩, rfl⟩, rfl, rfl, rfl, rfl, eq_i64 (by rw [nadd, nwrapi (by omega)]), trivial⟩, by show p.parts.length - (i + 1) < p.parts.length - i; omega⟩
             exact hgo h1

           · have g1 : p.parts.length - 1 ≤ i := lt_f g1
             conv => whnf
             refine ⟨fun g2 => ?_, fun g2 => ?_⟩
             · have h1 : ¬ (i + 1 = p.parts.length ∧ p.more = true) := fun c => by rw [show (Pg.more p) = true from c.2] at g2; exact Bool.noConfusion g2
               conv => whnf
               conv => whnf
               refine ⟨rfl, [strOf (lr X)], ⟨rfl, rfl, rfl⟩, by rw [List.length_append, List.length_singleton]; omega, by rw [List.length_append, List.length_singleton]; omega, ?_⟩
               conv => whnf
               refine ⟨⟨(i + 1, o1 :: (or ++ [strOf (lr X)])), g, ?_⟩, ⟨[0, 1, 4], ⟨rfl, ⟨rfl, rfl, rfl, rfl, rfl, rfl, trivial⟩, rfl⟩, rfl, rfl, rfl, rfl, eq_i64 (by rw [nadd, nwrapi (by omega)]), trivial⟩, by show p.parts.length - (i + 1) < p.parts.length - i; omega⟩
               exact hgo h1

             · have h1 : i + 1 = p.parts.length ∧ p.more = true := ⟨by omega, by simpa using g2⟩
               conv => whnf
               refine ⟨⟨(i + 1, o1 :: or), g, ?_⟩, ⟨[0, 1, 2], ⟨rfl, ⟨rfl, rfl, rfl, rfl, rfl, rfl, trivial⟩, rfl⟩, rfl, rfl, rfl, rfl, eq_i64 (by rw [nadd, nwrapi (by omega)]), trivial⟩, by show p.parts.length - (i + 1) < p.parts.length - i; omega⟩
               have hn : p.pts.drop (i + 1) = [] := List.drop_of_length_le (by unfold Pg.pts; rw [List.length_map]; omega)
               show S = (o1 :: or) ++ strsL (lace p.more (p.pts.drop (i + 1)))
               rw [hn]
               exact (hstop h1).trans (List.append_nil _).symm

     · have g : p.parts.length ≤ i := lt_f g
       have hdn : p.pts.drop i = [] := List.drop_of_length_le (by unfold Pg.pts; rw [List.length_map]; exact g)
       rw [hdn] at ho
       have ho : S = (o0 :: ol) := by rw [ho]; exact List.append_nil _
       conv => whnf
       rw [ho]
       exact ⟨(), [0, 2], ⟨rfl, ⟨rfl, rfl, rfl, rfl, trivial⟩, rfl⟩, rfl, trivial⟩
 · cases S with
   | nil =>
     conv => whnf
     exact Or.inl ⟨rfl, rfl⟩
   | cons s0 sr =>
     conv => whnf
     exact Or.inl ⟨rfl, rfl⟩
end Go.Proofs.YtokkphocaloelaaGreatDoor

end
section
namespace Go.Proofs.YtokkphocaloelaaGreatDoor
open Go Go.Vc
set_option maxRecDepth 100000
set_option maxHeartbeats 8000000

theorem neq_self (s : ByteArray) : (!(s.toList == s.toList)) = false := by rw [beq_self_eq_true]; rfl
theorem neq_nat (n : Nat) : (((n : Nat) : Int) != ((n : Nat) : Int)) = false := by simp
theorem sameN (w0 : World) : CallsA Tryz.prog w0 13 [.c (.val (.slice none 0 0)), .c (.val (.slice none 0 0))] [] fun r H => r = .o (.c (.val (.bool true))) ∧ H = [] := by
 refine callsA_of_ev c13_ ?_
 conv => whnf
 refine Or.inl ?_
 conv => whnf
 refine ⟨fun g => zF g, fun _ => ?_⟩
 conv => whnf
 refine Or.inl ?_
 conv => whnf
 refine ⟨Unit, fun _ => ⟨[(12, .o (.c (.val (.int .i64 ((0 : Nat) : Int))))), (13, .o (.c (.val (.int .i64 ((0 : Nat) : Int)))))], []⟩, fun _ => 0, ⟨(), [], ⟨rfl, trivial, rfl⟩, rfl, rfl, trivial⟩, fun _ => ?_⟩
 conv => whnf
 refine ⟨fun g => zF g, fun _ => ?_⟩
 conv => whnf
 exact Or.inl ⟨rfl, rfl⟩
theorem sameM (w0 : World) {xss yss : List (List ByteArray)} {a b : Nat} {l : List ByteArray} (ha : xss[a]? = some l) (hb : yss[b]? = some l) (hl : l.length ≤ 2147483648) :
   CallsA Tryz.prog w0 13 [.c (.mem 0 a l.length), .c (.mem 1 b l.length)] [.fam 9 encStr 1 xss, .fam 9 encStr 1 yss] fun r H => r = .o (.c (.val (.bool true))) ∧ H = [.fam 9 encStr 1 xss, .fam 9 encStr 1 yss] := by
 -- (.mem 0 a l.length) the first, (.mem 1 b l.length) the second, [.fam 9 encStr 1 xss, .fam 9 encStr 1 yss] the blocks, [0, 1] the renaming, ⟨rfl, ⟨rfl, rfl, rfl, rfl, trivial⟩, rfl⟩ its proof, l, s, ha, hs a load, l, s, hb, hs another
 refine callsA_of_ev c13_ ?_
 conv => whnf
 refine Or.inl ?_
 conv => whnf
 rw [neq_nat]
 refine ⟨fun g => zF g, fun _ => ?_⟩
 conv => whnf
 refine Or.inl ?_
 conv => whnf
 refine ⟨{i : Nat // i ≤ l.length}, fun ⟨i, _⟩ => ⟨[(0, .o (.c (.mem 0 a l.length))), (1, .o (.c (.mem 1 b l.length))), (12, .o (.c (.val (.int .i64 (l.length : Nat))))), (13, .o (.c (.val (.int .i64 (i : Nat)))))], [.fam 9 encStr 1 xss, .fam 9 encStr 1 yss]⟩, fun i => l.length - i.1, ⟨⟨0, Nat.zero_le _⟩, [0, 1], ⟨rfl, ⟨rfl, rfl, rfl, rfl, trivial⟩, rfl⟩, rfl, rfl, rfl, rfl, trivial⟩, fun ⟨i, hi⟩ => ?_⟩
 conv => whnf
 refine ⟨fun g => ?_, fun g => ?_⟩
 · have g : i < l.length := lt_t g
   obtain ⟨s, hs⟩ : ∃ s, l[i]? = some s := ⟨_, List.getElem?_eq_getElem g⟩
   conv => whnf
   refine Or.inl ?_
   conv => whnf
   refine ⟨⟨Int.natCast_nonneg i, Int.ofNat_lt.2 g⟩, ?_⟩
   conv => whnf
   refine ⟨l, s, ha, hs, ?_⟩
   conv => whnf
   refine ⟨⟨Int.natCast_nonneg i, Int.ofNat_lt.2 g⟩, ?_⟩
   conv => whnf
   refine ⟨l, s, hb, hs, ?_⟩
   conv => whnf
   rw [neq_self]
   refine ⟨fun g => zF g, fun _ => ?_⟩
   conv => whnf
   exact ⟨⟨i + 1, g⟩, ⟨[0, 1], ⟨rfl, ⟨rfl, rfl, rfl, rfl, trivial⟩, rfl⟩, rfl, rfl, rfl, eq_i64 (by rw [nadd, nwrapi (by omega)]), trivial⟩, by show l.length - (i + 1) < l.length - i; omega⟩
 · conv => whnf
   exact Or.inl ⟨rfl, rfl⟩
end Go.Proofs.YtokkphocaloelaaGreatDoor

end
section
namespace Go.Proofs.YtokkphocaloelaaGreatDoor
open Go Go.Vc
set_option maxRecDepth 100000
set_option maxHeartbeats 8000000

def encL : Enc (Option (Nat × Nat)) := ⟨fun bs x => match x, bs with
 | some (j, n), [b] => [.mem b j n]
 | _, _ => [.val (.slice none 0 0)], fun σ bs bs' x hl hk => by
 match x, bs, bs', hl with
 | none, [], [], _ => rfl
 | none, [b], [b'], _ => rfl
 | none, b :: c :: r, b' :: c' :: r', _ => rfl
 | some (j, n), [], [], _ => rfl
 | some (j, n), [b], [b'], _ =>
   have := hk 0 (by simp)
   simp only [List.getD_cons_zero] at this
   simp only [List.map_cons, CV.ren, this, List.map_nil]
 | some (j, n), b :: c :: r, b' :: c' :: r', _ => rfl⟩
theorem encL_len (bs : List Nat) (x : Option (Nat × Nat)) : (encL.f bs x).length = 1 := by
 match x, bs with
 | none, [] => rfl
 | none, [b] => rfl
 | none, b :: c :: r => rfl
 | some (j, n), [] => rfl
 | some (j, n), [b] => rfl
 | some (j, n), b :: c :: r => rfl
def rowL (j : Nat) (z : List ByteArray) : Option (Nat × Nat) := match z with
 | [] => none
 | _ :: _ => some (j, z.length)
def rowsL : Nat → List (List ByteArray) → List (Option (Nat × Nat))
 | _, [] => []
 | j, z :: r => rowL j z :: rowsL (if z.isEmpty then j else j + 1) r
def famL (zss : List (List ByteArray)) : List (List ByteArray) := zss.filter fun z => !z.isEmpty
theorem rowsL_len : ∀ (zss : List (List ByteArray)) (j : Nat), (rowsL j zss).length = zss.length
 | [], _ => rfl
 | _ :: r, _ => by show (rowsL _ r).length + 1 = r.length + 1; rw [rowsL_len r]
theorem rowsL_snoc (z : List ByteArray) : ∀ (zss : List (List ByteArray)) (j : Nat), rowsL j (zss ++ [z]) = rowsL j zss ++ [rowL (j + (famL zss).length) z]
 | [], j => rfl
 | y :: r, j => by
   show rowL j y :: rowsL _ (r ++ [z]) = rowL j y :: rowsL _ r ++ _
   rw [rowsL_snoc z r]
   show _ = rowL j y :: (rowsL _ r ++ _)
   congr 4
   unfold famL
   cases h : y.isEmpty <;> simp [h] <;> omega
theorem famL_nil {zss : List (List ByteArray)} : famL (zss ++ [[]]) = famL zss := by
 unfold famL
 simp
theorem famL_cons {zss : List (List ByteArray)} {z : ByteArray} {zr : List ByteArray} : famL (zss ++ [z :: zr]) = famL zss ++ [z :: zr] := by
 unfold famL
 simp
theorem rowsL_get : ∀ (zss : List (List ByteArray)) (j i : Nat) (z : List ByteArray), zss[i]? = some z → ∃ k, (rowsL j zss)[i]? = some (rowL k z) ∧ (z ≠ [] → j ≤ k ∧ (famL zss)[k - j]? = some z)
 | [], _, _, _, h => by simp at h
 | y :: r, j, 0, z, h => by
   obtain rfl : y = z := by simpa using h
   refine ⟨j, rfl, fun hp => ⟨Nat.le_refl _, ?_⟩⟩
   rw [Nat.sub_self]
   have : y.isEmpty = false := by cases y with | nil => exact absurd rfl hp | cons => rfl
   unfold famL
   simp [this]
 | y :: r, j, i + 1, z, h => by
   rw [List.getElem?_cons_succ] at h
   obtain ⟨k, h1, h2⟩ := rowsL_get r (if y.isEmpty then j else j + 1) i z h
   refine ⟨k, h1, fun hp => ?_⟩
   obtain ⟨h3, h4⟩ := h2 hp
   cases he : y.isEmpty with
   | true =>
     rw [he, if_pos rfl] at h3 h4
     refine ⟨h3, ?_⟩
     unfold famL at h4 ⊢
     simpa [he] using h4
   | false =>
     rw [he, if_neg Bool.false_ne_true] at h3 h4
     refine ⟨by omega, ?_⟩
     rw [show k - j = (k - (j + 1)) + 1 by omega]
     unfold famL at h4 ⊢
     simpa [he] using h4
def outL (f : Nat) (zss : List (List ByteArray)) : Blk := .vec true 31 encL [f] 1 (rowsL 0 zss)
def fmB (zss : List (List ByteArray)) : Blk := .fam 9 encStr 1 (famL zss)
theorem flatL_tau (f i nf J : Nat) (l : List (Option (Nat × Nat))) : (flat encL [f] l).map (tau f i nf J) = flat encL [nf] l := by
 unfold flat
 induction l with
 | nil => rfl
 | cons x r ih =>
   rw [List.flatMap_cons, List.flatMap_cons, List.map_append, ih]
   congr 1
   match x with
   | none => rfl
   | some (j, n) =>
     show [(bif Nat.beq f f then CV.mem nf j n else CV.mem f j n)] = _
     rw [Nat.beq_refl]
     rfl
theorem sameListsC (w0 : World) {zss : List (List ByteArray)} (hl : zss.length ≤ 2147483648) (hz : ∀ z ∈ zss, z.length ≤ 2147483648) :
   CallsA Tryz.prog w0 18 [.c (.vec 0 zss.length), .c (.vec 2 zss.length)] [outL 1 zss, fmB zss, outL 3 zss, fmB zss] fun r H => r = .o (.c (.val (.bool true))) ∧ H = [outL 1 zss, fmB zss, outL 3 zss, fmB zss] := by
 refine callsA_of_ev c18_ ?_
 conv => whnf
 refine Or.inl ?_
 conv => whnf
 rw [neq_nat]
 refine ⟨fun g => zF g, fun _ => ?_⟩
 conv => whnf
 refine Or.inl ?_
 conv => whnf
 refine ⟨{i : Nat // i ≤ zss.length}, fun ⟨i, _⟩ => ⟨[(0, .o (.c (.vec 0 zss.length))), (1, .o (.c (.vec 2 zss.length))), (12, .o (.c (.val (.int .i64 (zss.length : Nat))))), (13, .o (.c (.val (.int .i64 (i : Nat)))))], [outL 1 zss, fmB zss, outL 3 zss, fmB zss]⟩, fun i => zss.length - i.1, ⟨⟨0, Nat.zero_le _⟩, [0, 1, 2, 3], ⟨rfl, ⟨rfl, rfl, rfl, rfl, rfl, rfl, rfl, rfl, trivial⟩, rfl⟩, rfl, rfl, rfl, rfl, trivial⟩, fun ⟨i, hi⟩ => ?_⟩
 conv => whnf
 refine ⟨fun g => ?_, fun g => ?_⟩
 · have g : i < zss.length := lt_t g
   obtain ⟨z, hzi⟩ : ∃ z, zss[i]? = some z := ⟨_, List.getElem?_eq_getElem g⟩
   obtain ⟨k, hrow, hfam⟩ := rowsL_get zss 0 i z hzi
   have hzl := hz z (List.mem_of_getElem? hzi)
   conv => whnf
   refine Or.inl ?_
   conv => whnf
   refine ⟨⟨Int.natCast_nonneg i, Int.ofNat_lt.2 g⟩, ?_⟩
   conv => whnf
   cases z with
   | nil =>
     refine ⟨none, ?_⟩
     conv => whnf
     refine ⟨hrow, ?_⟩
     conv => whnf
     refine ⟨⟨Int.natCast_nonneg i, Int.ofNat_lt.2 g⟩, ?_⟩
     conv => whnf
     refine ⟨none, ?_⟩
     conv => whnf
     refine ⟨hrow, ?_⟩
     conv => whnf
     refine cL0 (sameN w0) ?_
     rintro _ _ ⟨rfl, rfl⟩
     refine ⟨trivial, ?_⟩
     conv => whnf
     refine ⟨fun g => zF g, fun _ => ?_⟩
     conv => whnf
     exact ⟨⟨i + 1, g⟩, ⟨[0, 1, 2, 3], ⟨rfl, ⟨rfl, rfl, rfl, rfl, rfl, rfl, rfl, rfl, trivial⟩, rfl⟩, rfl, rfl, rfl, eq_i64 (by rw [nadd, nwrapi (by omega)]), trivial⟩, by show zss.length - (i + 1) < zss.length - i; omega⟩
   | cons z0 zr =>
     have hf := (hfam (fun h => List.noConfusion rfl (heq_of_eq h))).2
     refine ⟨some (k, (z0 :: zr).length), ?_⟩
     conv => whnf
     refine ⟨hrow, ?_⟩
     conv => whnf
     refine ⟨⟨Int.natCast_nonneg i, Int.ofNat_lt.2 g⟩, ?_⟩
     conv => whnf
     refine ⟨some (k, (z0 :: zr).length), ?_⟩
     conv => whnf
     refine ⟨hrow, ?_⟩
     conv => whnf
     refine CallsA.lift (H0 := [fmB zss, fmB zss]) [1, 3] rfl ⟨rfl, rfl, rfl, rfl, trivial⟩ rfl (sameM w0 (l := z0 :: zr) (a := k) (b := k) hf hf hzl) ?_
     rintro _ _ ⟨rfl, rfl⟩
     refine ⟨trivial, ?_⟩
     conv => whnf
     refine ⟨fun g => zF g, fun _ => ?_⟩
     conv => whnf
     exact ⟨⟨i + 1, g⟩, ⟨[0, 1, 2, 3], ⟨rfl, ⟨rfl, rfl, rfl, rfl, rfl, rfl, rfl, rfl, trivial⟩, rfl⟩, rfl, rfl, rfl, eq_i64 (by rw [nadd, nwrapi (by omega)]), trivial⟩, by show zss.length - (i + 1) < zss.length - i; omega⟩
 · conv => whnf
   exact Or.inl ⟨rfl, rfl⟩
end Go.Proofs.YtokkphocaloelaaGreatDoor

end
section
namespace Go.Proofs.YtokkphocaloelaaGreatDoor
open Go Go.Vc
set_option maxRecDepth 100000
set_option maxHeartbeats 8000000

def lcdOf (p : Pg) : List ByteArray × Nat := (strsL p.segs, p.gran)
def bhd (b : ByteArray) : List (List ByteArray × Nat) := ((oggR b).1.drop 1).map lcdOf
def bhV (i : Nat) (yy : List (List ByteArray × Nat)) : CV := match yy with
 | [] => .val (.slice none 0 0)
 | _ :: _ => .vec i yy.length
def bhO (i : Nat) (yy : List (List ByteArray × Nat)) : List Blk := match yy with
 | [] => []
 | _ :: _ => [outL i (yy.map Prod.fst), grB (yy.map Prod.snd), fmB (yy.map Prod.fst)]
def bhE (wh : Bool) (o n cc i : Nat) (yy : List (List ByteArray × Nat)) : Env := [(2, .o (.c (bhV 2 yy))), (3, .o (.c (bhV 3 yy))), (4, .o (.c (.val (.bool wh)))), (18, .o (.c (.sli 0 6 o n cc))), (19, .o (.c (.val (.int .i64 (n : Nat))))), (20, .o (.c (.val (.int .i64 (i : Nat)))))]
theorem behindW (w0 : World) {b : ByteArray} (hs : b.size ≤ 1073741824) : CallsA Tryz.prog w0 16 [.c (.val (.string b))] [] fun r H => r = .t [.c (bhV 0 (bhd b)), .c (bhV 1 (bhd b)), .c (.val (.bool (oggR b).2))] ∧ H = bhO 2 (bhd b) := by
 have ho := oggReadW w0 (b0 := b) (by omega)
 have hwt := oggR_wt b
 obtain ⟨Y, hY⟩ : ∃ Y, Y = bhd b := ⟨_, rfl⟩
 rw [← hY]
 unfold bhd at hY
 generalize oggR b = og at ho hwt hY ⊢
 obtain ⟨ps, wh⟩ := og
 simp only at ho hwt hY ⊢
 refine callsA_of_ev c16_ ?_
 conv => whnf
 refine cL0 ho ?_
 rintro _ _ ⟨rfl, rfl⟩
 cases ps with
 | nil =>
   have hY : Y = [] := hY
   subst hY
   conv => whnf
   refine Or.inl ?_
   conv => whnf
   refine ⟨fun _ => ?_, fun g => zT g⟩
   conv => whnf
   exact Or.inl ⟨rfl, rfl⟩
 | cons p0 pr =>
   obtain ⟨ps, hps⟩ : ∃ ps, ps = p0 :: pr := ⟨_, rfl⟩
   have hYl : Y = pr.map lcdOf := hY
   have hprl : 27 * pr.length ≤ 1073741824 := by
     have h1 := wts_len pr
     have h2 : wts (p0 :: pr) = p0.wt + wts pr := rfl
     omega
   conv => whnf
   refine Or.inl ?_
   conv => whnf
   refine ⟨fun g => absurd (beq_t (a := pr.length + 1) (b := 0) g) (by omega), fun _ => ?_⟩
   conv => whnf
   refine Or.inr ⟨{yy : List (List ByteArray × Nat) // Y = yy}, fun ⟨yy, _⟩ => ⟨[(2, .o (.c (bhV 2 yy))), (3, .o (.c (bhV 3 yy))), (4, .o (.c (.val (.bool wh))))], pgsB 1 (p0 :: pr) :: famB (p0 :: pr) :: bhO 4 yy⟩, ?_, fun ⟨yy, hyy⟩ => ?_⟩
   · conv => whnf
     refine ⟨⟨by decide, by show (1 : Int) ≤ ((pr.length + 1 : Nat) : Int); omega, Int.le_refl _⟩, .inl ⟨fun c hc1 hc2 => ?_, fun hl => ?_, fun hl h0 => ?_⟩⟩
     · conv => whnf
       refine ⟨{x : Nat × List (List ByteArray × Nat) // x.1 ≤ pr.length ∧ x.2 = (pr.take x.1).map lcdOf}, fun ⟨⟨i, yy⟩, _⟩ => ⟨bhE wh 1 pr.length (c - 1) i yy, pgsB 1 (p0 :: pr) :: famB (p0 :: pr) :: bhO 4 yy⟩, fun x => pr.length - x.1.1, ⟨⟨(0, []), Nat.zero_le _, rfl⟩, [0, 1], ⟨rfl, ⟨rfl, rfl, rfl, rfl, trivial⟩, rfl⟩, rfl, rfl, rfl, rfl, rfl, rfl, trivial⟩, fun ⟨⟨i, yy⟩, hi, hyy⟩ => ?_⟩
       simp only at hi hyy
       have hyl : yy.length = i := by rw [hyy, List.length_map, List.length_take]; omega
       cases yy with
       | nil =>
         conv => whnf
         refine ⟨fun g => ?_, fun g => ?_⟩
         · have g : i < pr.length := lt_t g
           obtain ⟨p, hp⟩ : ∃ p, pr[i]? = some p := ⟨_, List.getElem?_eq_getElem g⟩
           obtain ⟨f, hrow, hfam⟩ := rowsP_get (p0 :: pr) 0 (1 + i) p (by rw [Nat.add_comm, List.getElem?_cons_succ]; exact hp)
           have hpw : p.wt ≤ wts (p0 :: pr) := wts_mem (List.mem_cons_of_mem _ (List.mem_of_getElem? hp))
           obtain ⟨yy2, hyy2⟩ : ∃ yy2, yy2 = (pr.take (i + 1)).map lcdOf := ⟨_, rfl⟩
           have hyn : yy2 = ([] : List (List ByteArray × Nat)) ++ [lcdOf p] := by rw [hyy2, List.take_add_one, hp, List.map_append, ← hyy]; rfl
           have hpwB : p.wt ≤ 1073741824 := by omega
           obtain ⟨a, sq, q, d, parts, m⟩ := p
           simp only [Nat.sub_zero] at hfam
           rw [← hps] at hrow hfam ⊢
           conv => whnf
           refine Or.inr ⟨{yy' : List (List ByteArray × Nat) // yy' = yy2}, fun ⟨yy', _⟩ => ⟨bhE wh 1 pr.length (c - 1) i yy', pgsB 1 ps :: famB ps :: bhO 4 yy'⟩, ?_, fun ⟨yy', hyy'⟩ => ?_⟩
           · conv => whnf
             refine ⟨⟨Int.natCast_nonneg i, Int.ofNat_lt.2 g⟩, ?_⟩
             conv => whnf
             refine ⟨(⟨a, sq, q, d, parts, m⟩, f), hrow, ?_⟩
             cases parts with
             | nil =>
               have hyy' : yy2 = [] ++ [(([] : List ByteArray), q)] := hyn
               conv => whnf
               refine ⟨?_, ?_⟩
               · conv => whnf
                 refine cL0 (lacedN w0 (p := ⟨a, sq, q, d, [], m⟩) rfl) ?_
                 rintro _ _ ⟨rfl, rfl⟩
                 refine ⟨⟨⟨rfl, rfl⟩, trivial⟩, ?_⟩
                 conv => whnf
                 refine ⟨?_, ?_⟩
                 · conv => whnf
                   refine ⟨⟨⟨rfl, rfl⟩, trivial⟩, ?_⟩
                   conv => whnf
                   refine ⟨?_, ?_⟩
                   · conv => whnf
                     refine ⟨_, Ghost.fam0 w0 _ 9 encStr 1 (by decide) (fun _ => rfl), ?_⟩
                     conv => whnf
                     refine ⟨by decide, Option (Nat × Nat), encL, [4], [none], encL_len [4], ⟨rfl, rfl, rfl⟩, by simp only [List.length_cons, List.length_nil]; omega, by simp only [List.length_cons, List.length_nil]; omega, ?_⟩
                     conv => whnf
                     refine ⟨⟨⟨rfl, rfl⟩, trivial⟩, ?_⟩
                     conv => whnf
                     refine ⟨trivial, ?_⟩
                     conv => whnf
                     refine ⟨by decide, Int, encI .u64, [], [((q : Nat) : Int)], fun _ => rfl, ⟨rfl, rfl, rfl⟩, by simp only [List.length_cons, List.length_nil]; omega, by simp only [List.length_cons, List.length_nil]; omega, ?_⟩
                     conv => whnf
                     refine ⟨trivial, ?_⟩
                     conv => whnf
                     exact ⟨⟨[([], q)], by rw [hyy']; rfl⟩, [0, 1, 5, 7, 4], ⟨rfl, ⟨rfl, rfl, rfl, rfl, rfl, rfl, rfl, rfl, rfl, rfl, trivial⟩, rfl⟩, rfl, rfl, rfl, rfl, rfl, rfl, trivial⟩
                   · conv => whnf
                     refine ⟨trivial, ?_⟩
                     conv => whnf
                     refine ⟨_, Ghost.fam0 w0 _ 9 encStr 1 (by decide) (fun _ => rfl), ?_⟩
                     conv => whnf
                     refine ⟨by decide, Option (Nat × Nat), encL, [5], [none], encL_len [5], ⟨rfl, rfl, rfl⟩, by simp only [List.length_cons, List.length_nil]; omega, by simp only [List.length_cons, List.length_nil]; omega, ?_⟩
                     conv => whnf
                     refine ⟨trivial, ?_⟩
                     conv => whnf
                     refine ⟨by decide, Int, encI .u64, [], [((q : Nat) : Int)], fun _ => rfl, ⟨rfl, rfl, rfl⟩, by simp only [List.length_cons, List.length_nil]; omega, by simp only [List.length_cons, List.length_nil]; omega, ?_⟩
                     conv => whnf
                     refine ⟨trivial, ?_⟩
                     conv => whnf
                     exact ⟨⟨[([], q)], by rw [hyy']; rfl⟩, [0, 1, 6, 7, 5], ⟨rfl, ⟨rfl, rfl, rfl, rfl, rfl, rfl, rfl, rfl, rfl, rfl, trivial⟩, rfl⟩, rfl, rfl, rfl, rfl, rfl, rfl, trivial⟩
                 · conv => whnf
                   refine ⟨trivial, ?_⟩
                   conv => whnf
                   refine ⟨trivial, ?_⟩
                   conv => whnf
                   refine ⟨_, Ghost.fam0 w0 _ 9 encStr 1 (by decide) (fun _ => rfl), ?_⟩
                   conv => whnf
                   refine ⟨by decide, Option (Nat × Nat), encL, [5], [none], encL_len [5], ⟨rfl, rfl, rfl⟩, by simp only [List.length_cons, List.length_nil]; omega, by simp only [List.length_cons, List.length_nil]; omega, ?_⟩
                   conv => whnf
                   refine ⟨trivial, ?_⟩
                   conv => whnf
                   refine ⟨by decide, Int, encI .u64, [], [((q : Nat) : Int)], fun _ => rfl, ⟨rfl, rfl, rfl⟩, by simp only [List.length_cons, List.length_nil]; omega, by simp only [List.length_cons, List.length_nil]; omega, ?_⟩
                   conv => whnf
                   refine ⟨trivial, ?_⟩
                   conv => whnf
                   exact ⟨⟨[([], q)], by rw [hyy']; rfl⟩, [0, 1, 6, 7, 5], ⟨rfl, ⟨rfl, rfl, rfl, rfl, rfl, rfl, rfl, rfl, rfl, rfl, trivial⟩, rfl⟩, rfl, rfl, rfl, rfl, rfl, rfl, trivial⟩
               · conv => whnf
                 refine ⟨⟨⟨rfl, rfl⟩, trivial⟩, ?_⟩
                 conv => whnf
                 refine cL0 (lacedN w0 (p := ⟨a, sq, q, d, [], m⟩) rfl) ?_
                 rintro _ _ ⟨rfl, rfl⟩
                 refine ⟨trivial, ?_⟩
                 conv => whnf
                 refine ⟨trivial, ?_⟩
                 conv => whnf
                 refine ⟨_, Ghost.fam0 w0 _ 9 encStr 1 (by decide) (fun _ => rfl), ?_⟩
                 conv => whnf
                 refine ⟨by decide, Option (Nat × Nat), encL, [5], [none], encL_len [5], ⟨rfl, rfl, rfl⟩, by simp only [List.length_cons, List.length_nil]; omega, by simp only [List.length_cons, List.length_nil]; omega, ?_⟩
                 conv => whnf
                 refine ⟨trivial, ?_⟩
                 conv => whnf
                 refine ⟨by decide, Int, encI .u64, [], [((q : Nat) : Int)], fun _ => rfl, ⟨rfl, rfl, rfl⟩, by simp only [List.length_cons, List.length_nil]; omega, by simp only [List.length_cons, List.length_nil]; omega, ?_⟩
                 conv => whnf
                 refine ⟨trivial, ?_⟩
                 conv => whnf
                 exact ⟨⟨[([], q)], by rw [hyy']; rfl⟩, [0, 1, 6, 7, 5], ⟨rfl, ⟨rfl, rfl, rfl, rfl, rfl, rfl, rfl, rfl, rfl, rfl, trivial⟩, rfl⟩, rfl, rfl, rfl, rfl, rfl, rfl, trivial⟩
             | cons x0 xr =>
               have hlc := lacedC w0 (p := ⟨a, sq, q, d, x0 :: xr, m⟩) (xss := famOf ps) (k := f) (fun h => List.noConfusion rfl (heq_of_eq h)) (hfam (fun h => List.noConfusion rfl (heq_of_eq h))).2 (by omega)
               obtain ⟨z, hz⟩ : ∃ z, z = strsL (Pg.segs ⟨a, sq, q, d, x0 :: xr, m⟩) := ⟨_, rfl⟩
               rw [← hz] at hlc
               have hyn : yy2 = [] ++ [(z, q)] := by rw [hz]; exact hyn
               cases z with
               | nil =>
                 have hyy' := hyn
                 conv => whnf
                 refine ⟨?_, ?_⟩
                 · conv => whnf
                   refine CallsA.lift (H0 := [.fam 9 encStr 1 (famOf ps)]) [1] rfl ⟨rfl, rfl, trivial⟩ rfl hlc ?_
                   rintro _ _ ⟨rfl, rfl⟩
                   refine ⟨⟨⟨rfl, rfl⟩, trivial⟩, ?_⟩
                   conv => whnf
                   refine ⟨?_, ?_⟩
                   · conv => whnf
                     refine ⟨⟨⟨rfl, rfl⟩, trivial⟩, ?_⟩
                     conv => whnf
                     refine ⟨?_, ?_⟩
                     · conv => whnf
                       refine ⟨_, Ghost.fam0 w0 _ 9 encStr 1 (by decide) (fun _ => rfl), ?_⟩
                       conv => whnf
                       refine ⟨by decide, Option (Nat × Nat), encL, [4], [none], encL_len [4], ⟨rfl, rfl, rfl⟩, by simp only [List.length_cons, List.length_nil]; omega, by simp only [List.length_cons, List.length_nil]; omega, ?_⟩
                       conv => whnf
                       refine ⟨⟨⟨rfl, rfl⟩, trivial⟩, ?_⟩
                       conv => whnf
                       refine ⟨trivial, ?_⟩
                       conv => whnf
                       refine ⟨by decide, Int, encI .u64, [], [((q : Nat) : Int)], fun _ => rfl, ⟨rfl, rfl, rfl⟩, by simp only [List.length_cons, List.length_nil]; omega, by simp only [List.length_cons, List.length_nil]; omega, ?_⟩
                       conv => whnf
                       refine ⟨trivial, ?_⟩
                       conv => whnf
                       exact ⟨⟨[([], q)], by rw [hyy']; rfl⟩, [0, 1, 5, 7, 4], ⟨rfl, ⟨rfl, rfl, rfl, rfl, rfl, rfl, rfl, rfl, rfl, rfl, trivial⟩, rfl⟩, rfl, rfl, rfl, rfl, rfl, rfl, trivial⟩
                     · conv => whnf
                       refine ⟨trivial, ?_⟩
                       conv => whnf
                       refine ⟨_, Ghost.fam0 w0 _ 9 encStr 1 (by decide) (fun _ => rfl), ?_⟩
                       conv => whnf
                       refine ⟨by decide, Option (Nat × Nat), encL, [5], [none], encL_len [5], ⟨rfl, rfl, rfl⟩, by simp only [List.length_cons, List.length_nil]; omega, by simp only [List.length_cons, List.length_nil]; omega, ?_⟩
                       conv => whnf
                       refine ⟨trivial, ?_⟩
                       conv => whnf
                       refine ⟨by decide, Int, encI .u64, [], [((q : Nat) : Int)], fun _ => rfl, ⟨rfl, rfl, rfl⟩, by simp only [List.length_cons, List.length_nil]; omega, by simp only [List.length_cons, List.length_nil]; omega, ?_⟩
                       conv => whnf
                       refine ⟨trivial, ?_⟩
                       conv => whnf
                       exact ⟨⟨[([], q)], by rw [hyy']; rfl⟩, [0, 1, 6, 7, 5], ⟨rfl, ⟨rfl, rfl, rfl, rfl, rfl, rfl, rfl, rfl, rfl, rfl, trivial⟩, rfl⟩, rfl, rfl, rfl, rfl, rfl, rfl, trivial⟩
                   · conv => whnf
                     refine ⟨trivial, ?_⟩
                     conv => whnf
                     refine ⟨trivial, ?_⟩
                     conv => whnf
                     refine ⟨_, Ghost.fam0 w0 _ 9 encStr 1 (by decide) (fun _ => rfl), ?_⟩
                     conv => whnf
                     refine ⟨by decide, Option (Nat × Nat), encL, [5], [none], encL_len [5], ⟨rfl, rfl, rfl⟩, by simp only [List.length_cons, List.length_nil]; omega, by simp only [List.length_cons, List.length_nil]; omega, ?_⟩
                     conv => whnf
                     refine ⟨trivial, ?_⟩
                     conv => whnf
                     refine ⟨by decide, Int, encI .u64, [], [((q : Nat) : Int)], fun _ => rfl, ⟨rfl, rfl, rfl⟩, by simp only [List.length_cons, List.length_nil]; omega, by simp only [List.length_cons, List.length_nil]; omega, ?_⟩
                     conv => whnf
                     refine ⟨trivial, ?_⟩
                     conv => whnf
                     exact ⟨⟨[([], q)], by rw [hyy']; rfl⟩, [0, 1, 6, 7, 5], ⟨rfl, ⟨rfl, rfl, rfl, rfl, rfl, rfl, rfl, rfl, rfl, rfl, trivial⟩, rfl⟩, rfl, rfl, rfl, rfl, rfl, rfl, trivial⟩
                 · conv => whnf
                   refine ⟨⟨⟨rfl, rfl⟩, trivial⟩, ?_⟩
                   conv => whnf
                   refine CallsA.lift (H0 := [.fam 9 encStr 1 (famOf ps)]) [1] rfl ⟨rfl, rfl, trivial⟩ rfl hlc ?_
                   rintro _ _ ⟨rfl, rfl⟩
                   refine ⟨trivial, ?_⟩
                   conv => whnf
                   refine ⟨trivial, ?_⟩
                   conv => whnf
                   refine ⟨_, Ghost.fam0 w0 _ 9 encStr 1 (by decide) (fun _ => rfl), ?_⟩
                   conv => whnf
                   refine ⟨by decide, Option (Nat × Nat), encL, [5], [none], encL_len [5], ⟨rfl, rfl, rfl⟩, by simp only [List.length_cons, List.length_nil]; omega, by simp only [List.length_cons, List.length_nil]; omega, ?_⟩
                   conv => whnf
                   refine ⟨trivial, ?_⟩
                   conv => whnf
                   refine ⟨by decide, Int, encI .u64, [], [((q : Nat) : Int)], fun _ => rfl, ⟨rfl, rfl, rfl⟩, by simp only [List.length_cons, List.length_nil]; omega, by simp only [List.length_cons, List.length_nil]; omega, ?_⟩
                   conv => whnf
                   refine ⟨trivial, ?_⟩
                   conv => whnf
                   exact ⟨⟨[([], q)], by rw [hyy']; rfl⟩, [0, 1, 6, 7, 5], ⟨rfl, ⟨rfl, rfl, rfl, rfl, rfl, rfl, rfl, rfl, rfl, rfl, trivial⟩, rfl⟩, rfl, rfl, rfl, rfl, rfl, rfl, trivial⟩
               | cons z0 zr =>
                 have hyy' := hyn
                 conv => whnf
                 refine ⟨?_, ?_⟩
                 · conv => whnf
                   refine CallsA.lift (H0 := [.fam 9 encStr 1 (famOf ps)]) [1] rfl ⟨rfl, rfl, trivial⟩ rfl hlc ?_
                   rintro _ _ ⟨rfl, rfl⟩
                   refine ⟨⟨⟨rfl, rfl⟩, trivial⟩, ?_⟩
                   conv => whnf
                   refine ⟨?_, ?_⟩
                   · conv => whnf
                     refine ⟨⟨⟨rfl, rfl⟩, trivial⟩, ?_⟩
                     conv => whnf
                     refine ⟨?_, ?_⟩
                     · conv => whnf
                       refine ⟨[pgsB 1 ps, famB ps, .cells 57 (pgM ⟨a, sq, q, d, x0 :: xr, m⟩ 1 f), .dead, .cells 31 [.mem 6 0 (z0 :: zr).length], .dead] ++ [.fam 9 encStr 1 ([] ++ [z0 :: zr])], Ghost.trans (H1 := [pgsB 1 ps, famB ps, .cells 57 (pgM ⟨a, sq, q, d, x0 :: xr, m⟩ 1 f), strB (z0 :: zr), .cells 31 [.vec 3 (z0 :: zr).length], .fam 9 encStr 1 []]) (Ghost.fam0 w0 [pgsB 1 ps, famB ps, .cells 57 (pgM ⟨a, sq, q, d, x0 :: xr, m⟩ 1 f), strB (z0 :: zr), .cells 31 [.vec 3 (z0 :: zr).length]] 9 encStr 1 (by decide) (fun _ => rfl)) (Ghost.joinL 5 3 (H := [pgsB 1 ps, famB ps, .cells 57 (pgM ⟨a, sq, q, d, x0 :: xr, m⟩ 1 f), strB (z0 :: zr), .cells 31 [.vec 3 (z0 :: zr).length], .fam 9 encStr 1 []]) (H1 := [pgsB 1 ps, famB ps, .cells 57 (pgM ⟨a, sq, q, d, x0 :: xr, m⟩ 1 f), .dead, .cells 31 [.mem 6 0 (z0 :: zr).length], .dead]) (xss := []) (zs := z0 :: zr) (wr := true) rfl rfl ⟨.keep (by decide) (by decide), .keep (by decide) (by decide), .keep (by decide) (by decide), .dead, .cells (by decide) (by decide) rfl, .dead, trivial⟩), ?_⟩
                       conv => whnf
                       refine ⟨by decide, Option (Nat × Nat), encL, [6], [some (0, (z0 :: zr).length)], encL_len [6], ⟨rfl, rfl, rfl⟩, by simp only [List.length_cons, List.length_nil]; omega, by simp only [List.length_cons, List.length_nil]; omega, ?_⟩
                       conv => whnf
                       refine ⟨⟨⟨rfl, rfl⟩, trivial⟩, ?_⟩
                       conv => whnf
                       refine ⟨trivial, ?_⟩
                       conv => whnf
                       refine ⟨by decide, Int, encI .u64, [], [((q : Nat) : Int)], fun _ => rfl, ⟨rfl, rfl, rfl⟩, by simp only [List.length_cons, List.length_nil]; omega, by simp only [List.length_cons, List.length_nil]; omega, ?_⟩
                       conv => whnf
                       refine ⟨trivial, ?_⟩
                       conv => whnf
                       exact ⟨⟨[(z0 :: zr, q)], by rw [hyy']; rfl⟩, [0, 1, 7, 9, 6], ⟨rfl, ⟨rfl, rfl, rfl, rfl, rfl, rfl, rfl, rfl, rfl, rfl, trivial⟩, rfl⟩, rfl, rfl, rfl, rfl, rfl, rfl, trivial⟩
                     · conv => whnf
                       refine ⟨trivial, ?_⟩
                       conv => whnf
                       refine ⟨[pgsB 1 ps, famB ps, .cells 57 (pgM ⟨a, sq, q, d, x0 :: xr, m⟩ 1 f), .dead, .cells 31 [.mem 7 0 (z0 :: zr).length], .cells 39 [.val (.int .u64 ((q : Nat) : Int))], .dead] ++ [.fam 9 encStr 1 ([] ++ [z0 :: zr])], Ghost.trans (H1 := [pgsB 1 ps, famB ps, .cells 57 (pgM ⟨a, sq, q, d, x0 :: xr, m⟩ 1 f), strB (z0 :: zr), .cells 31 [.vec 3 (z0 :: zr).length], .cells 39 [.val (.int .u64 ((q : Nat) : Int))], .fam 9 encStr 1 []]) (Ghost.fam0 w0 [pgsB 1 ps, famB ps, .cells 57 (pgM ⟨a, sq, q, d, x0 :: xr, m⟩ 1 f), strB (z0 :: zr), .cells 31 [.vec 3 (z0 :: zr).length], .cells 39 [.val (.int .u64 ((q : Nat) : Int))]] 9 encStr 1 (by decide) (fun _ => rfl)) (Ghost.joinL 6 3 (H := [pgsB 1 ps, famB ps, .cells 57 (pgM ⟨a, sq, q, d, x0 :: xr, m⟩ 1 f), strB (z0 :: zr), .cells 31 [.vec 3 (z0 :: zr).length], .cells 39 [.val (.int .u64 ((q : Nat) : Int))], .fam 9 encStr 1 []]) (H1 := [pgsB 1 ps, famB ps, .cells 57 (pgM ⟨a, sq, q, d, x0 :: xr, m⟩ 1 f), .dead, .cells 31 [.mem 7 0 (z0 :: zr).length], .cells 39 [.val (.int .u64 ((q : Nat) : Int))], .dead]) (xss := []) (zs := z0 :: zr) (wr := true) rfl rfl ⟨.keep (by decide) (by decide), .keep (by decide) (by decide), .keep (by decide) (by decide), .dead, .cells (by decide) (by decide) rfl, .keep (by decide) (by decide), .dead, trivial⟩), ?_⟩
                       conv => whnf
                       refine ⟨by decide, Option (Nat × Nat), encL, [7], [some (0, (z0 :: zr).length)], encL_len [7], ⟨rfl, rfl, rfl⟩, by simp only [List.length_cons, List.length_nil]; omega, by simp only [List.length_cons, List.length_nil]; omega, ?_⟩
                       conv => whnf
                       refine ⟨trivial, ?_⟩
                       conv => whnf
                       refine ⟨by decide, Int, encI .u64, [], [((q : Nat) : Int)], fun _ => rfl, ⟨rfl, rfl, rfl⟩, by simp only [List.length_cons, List.length_nil]; omega, by simp only [List.length_cons, List.length_nil]; omega, ?_⟩
                       conv => whnf
                       refine ⟨trivial, ?_⟩
                       conv => whnf
                       exact ⟨⟨[(z0 :: zr, q)], by rw [hyy']; rfl⟩, [0, 1, 8, 9, 7], ⟨rfl, ⟨rfl, rfl, rfl, rfl, rfl, rfl, rfl, rfl, rfl, rfl, trivial⟩, rfl⟩, rfl, rfl, rfl, rfl, rfl, rfl, trivial⟩
                   · conv => whnf
                     refine ⟨trivial, ?_⟩
                     conv => whnf
                     refine ⟨trivial, ?_⟩
                     conv => whnf
                     refine ⟨[pgsB 1 ps, famB ps, .cells 57 (pgM ⟨a, sq, q, d, x0 :: xr, m⟩ 1 f), .dead, .cells 39 [.val (.int .u64 ((q : Nat) : Int))], .cells 31 [.mem 7 0 (z0 :: zr).length], .dead] ++ [.fam 9 encStr 1 ([] ++ [z0 :: zr])], Ghost.trans (H1 := [pgsB 1 ps, famB ps, .cells 57 (pgM ⟨a, sq, q, d, x0 :: xr, m⟩ 1 f), strB (z0 :: zr), .cells 39 [.val (.int .u64 ((q : Nat) : Int))], .cells 31 [.vec 3 (z0 :: zr).length], .fam 9 encStr 1 []]) (Ghost.fam0 w0 [pgsB 1 ps, famB ps, .cells 57 (pgM ⟨a, sq, q, d, x0 :: xr, m⟩ 1 f), strB (z0 :: zr), .cells 39 [.val (.int .u64 ((q : Nat) : Int))], .cells 31 [.vec 3 (z0 :: zr).length]] 9 encStr 1 (by decide) (fun _ => rfl)) (Ghost.joinL 6 3 (H := [pgsB 1 ps, famB ps, .cells 57 (pgM ⟨a, sq, q, d, x0 :: xr, m⟩ 1 f), strB (z0 :: zr), .cells 39 [.val (.int .u64 ((q : Nat) : Int))], .cells 31 [.vec 3 (z0 :: zr).length], .fam 9 encStr 1 []]) (H1 := [pgsB 1 ps, famB ps, .cells 57 (pgM ⟨a, sq, q, d, x0 :: xr, m⟩ 1 f), .dead, .cells 39 [.val (.int .u64 ((q : Nat) : Int))], .cells 31 [.mem 7 0 (z0 :: zr).length], .dead]) (xss := []) (zs := z0 :: zr) (wr := true) rfl rfl ⟨.keep (by decide) (by decide), .keep (by decide) (by decide), .keep (by decide) (by decide), .dead, .keep (by decide) (by decide), .cells (by decide) (by decide) rfl, .dead, trivial⟩), ?_⟩
                     conv => whnf
                     refine ⟨by decide, Option (Nat × Nat), encL, [7], [some (0, (z0 :: zr).length)], encL_len [7], ⟨rfl, rfl, rfl⟩, by simp only [List.length_cons, List.length_nil]; omega, by simp only [List.length_cons, List.length_nil]; omega, ?_⟩
                     conv => whnf
                     refine ⟨trivial, ?_⟩
                     conv => whnf
                     refine ⟨by decide, Int, encI .u64, [], [((q : Nat) : Int)], fun _ => rfl, ⟨rfl, rfl, rfl⟩, by simp only [List.length_cons, List.length_nil]; omega, by simp only [List.length_cons, List.length_nil]; omega, ?_⟩
                     conv => whnf
                     refine ⟨trivial, ?_⟩
                     conv => whnf
                     exact ⟨⟨[(z0 :: zr, q)], by rw [hyy']; rfl⟩, [0, 1, 8, 9, 7], ⟨rfl, ⟨rfl, rfl, rfl, rfl, rfl, rfl, rfl, rfl, rfl, rfl, trivial⟩, rfl⟩, rfl, rfl, rfl, rfl, rfl, rfl, trivial⟩
                 · conv => whnf
                   refine ⟨⟨⟨rfl, rfl⟩, trivial⟩, ?_⟩
                   conv => whnf
                   refine CallsA.lift (H0 := [.fam 9 encStr 1 (famOf ps)]) [1] rfl ⟨rfl, rfl, trivial⟩ rfl hlc ?_
                   rintro _ _ ⟨rfl, rfl⟩
                   refine ⟨trivial, ?_⟩
                   conv => whnf
                   refine ⟨trivial, ?_⟩
                   conv => whnf
                   refine ⟨[pgsB 1 ps, famB ps, .cells 57 (pgM ⟨a, sq, q, d, x0 :: xr, m⟩ 1 f), .cells 39 [.val (.int .u64 ((q : Nat) : Int))], .dead, .cells 31 [.mem 7 0 (z0 :: zr).length], .dead] ++ [.fam 9 encStr 1 ([] ++ [z0 :: zr])], Ghost.trans (H1 := [pgsB 1 ps, famB ps, .cells 57 (pgM ⟨a, sq, q, d, x0 :: xr, m⟩ 1 f), .cells 39 [.val (.int .u64 ((q : Nat) : Int))], strB (z0 :: zr), .cells 31 [.vec 4 (z0 :: zr).length], .fam 9 encStr 1 []]) (Ghost.fam0 w0 [pgsB 1 ps, famB ps, .cells 57 (pgM ⟨a, sq, q, d, x0 :: xr, m⟩ 1 f), .cells 39 [.val (.int .u64 ((q : Nat) : Int))], strB (z0 :: zr), .cells 31 [.vec 4 (z0 :: zr).length]] 9 encStr 1 (by decide) (fun _ => rfl)) (Ghost.joinL 6 4 (H := [pgsB 1 ps, famB ps, .cells 57 (pgM ⟨a, sq, q, d, x0 :: xr, m⟩ 1 f), .cells 39 [.val (.int .u64 ((q : Nat) : Int))], strB (z0 :: zr), .cells 31 [.vec 4 (z0 :: zr).length], .fam 9 encStr 1 []]) (H1 := [pgsB 1 ps, famB ps, .cells 57 (pgM ⟨a, sq, q, d, x0 :: xr, m⟩ 1 f), .cells 39 [.val (.int .u64 ((q : Nat) : Int))], .dead, .cells 31 [.mem 7 0 (z0 :: zr).length], .dead]) (xss := []) (zs := z0 :: zr) (wr := true) rfl rfl ⟨.keep (by decide) (by decide), .keep (by decide) (by decide), .keep (by decide) (by decide), .keep (by decide) (by decide), .dead, .cells (by decide) (by decide) rfl, .dead, trivial⟩), ?_⟩
                   conv => whnf
                   refine ⟨by decide, Option (Nat × Nat), encL, [7], [some (0, (z0 :: zr).length)], encL_len [7], ⟨rfl, rfl, rfl⟩, by simp only [List.length_cons, List.length_nil]; omega, by simp only [List.length_cons, List.length_nil]; omega, ?_⟩
                   conv => whnf
                   refine ⟨trivial, ?_⟩
                   conv => whnf
                   refine ⟨by decide, Int, encI .u64, [], [((q : Nat) : Int)], fun _ => rfl, ⟨rfl, rfl, rfl⟩, by simp only [List.length_cons, List.length_nil]; omega, by simp only [List.length_cons, List.length_nil]; omega, ?_⟩
                   conv => whnf
                   refine ⟨trivial, ?_⟩
                   conv => whnf
                   exact ⟨⟨[(z0 :: zr, q)], by rw [hyy']; rfl⟩, [0, 1, 8, 9, 7], ⟨rfl, ⟨rfl, rfl, rfl, rfl, rfl, rfl, rfl, rfl, rfl, rfl, trivial⟩, rfl⟩, rfl, rfl, rfl, rfl, rfl, rfl, trivial⟩
       
           · have hyl2 : yy2.length = i + 1 := by rw [hyy2, List.length_map, List.length_take]; omega
             cases yy' with
             | nil =>
               rw [← hyy'] at hyl2
               exact absurd hyl2 (by simp)
             | cons w1 wr =>
               conv => whnf
               exact ⟨⟨(i + 1, w1 :: wr), g, hyy'.trans hyy2⟩, ⟨[0, 1, 2, 3, 4], ⟨rfl, ⟨rfl, rfl, rfl, rfl, rfl, rfl, rfl, rfl, rfl, rfl, trivial⟩, rfl⟩, rfl, rfl, rfl, rfl, rfl, eq_i64 (by rw [nadd, nwrapi (by omega)]), trivial⟩, by show pr.length - (i + 1) < pr.length - i; omega⟩
         · have g : pr.length ≤ i := lt_f g
           rw [List.take_of_length_le g, ← hYl] at hyy
           conv => whnf
           exact ⟨⟨[], hyy.symm⟩, [0, 1], ⟨rfl, ⟨rfl, rfl, rfl, rfl, trivial⟩, rfl⟩, rfl, rfl, rfl, trivial⟩
       | cons y0 yr =>
         have hml : (rowsL 0 ((y0 :: yr).map Prod.fst)).length = yr.length + 1 := by rw [rowsL_len, List.length_map]; rfl
         have hml2 : (((y0 :: yr).map Prod.snd).map fun (n : Nat) => (n : Int)).length = yr.length + 1 := by rw [List.length_map, List.length_map]; rfl
         have hyrl : (y0 :: yr).length = yr.length + 1 := rfl
         conv => whnf
         refine ⟨fun g => ?_, fun g => ?_⟩
         · have g : i < pr.length := lt_t g
           obtain ⟨p, hp⟩ : ∃ p, pr[i]? = some p := ⟨_, List.getElem?_eq_getElem g⟩
           obtain ⟨f, hrow, hfam⟩ := rowsP_get (p0 :: pr) 0 (1 + i) p (by rw [Nat.add_comm, List.getElem?_cons_succ]; exact hp)
           have hpw : p.wt ≤ wts (p0 :: pr) := wts_mem (List.mem_cons_of_mem _ (List.mem_of_getElem? hp))
           obtain ⟨yy2, hyy2⟩ : ∃ yy2, yy2 = (pr.take (i + 1)).map lcdOf := ⟨_, rfl⟩
           have hyn : yy2 = (y0 :: yr) ++ [lcdOf p] := by rw [hyy2, List.take_add_one, hp, List.map_append, ← hyy]; rfl
           have hpwB : p.wt ≤ 1073741824 := by omega
           obtain ⟨a, sq, q, d, parts, m⟩ := p
           simp only [Nat.sub_zero] at hfam
           rw [← hps] at hrow hfam ⊢
           conv => whnf
           refine Or.inr ⟨{yy' : List (List ByteArray × Nat) // yy' = yy2}, fun ⟨yy', _⟩ => ⟨bhE wh 1 pr.length (c - 1) i yy', pgsB 1 ps :: famB ps :: bhO 4 yy'⟩, ?_, fun ⟨yy', hyy'⟩ => ?_⟩
           · conv => whnf
             refine ⟨⟨Int.natCast_nonneg i, Int.ofNat_lt.2 g⟩, ?_⟩
             conv => whnf
             refine ⟨(⟨a, sq, q, d, parts, m⟩, f), hrow, ?_⟩
             cases parts with
             | nil =>
               have hyy' : yy2 = (y0 :: yr) ++ [(([] : List ByteArray), q)] := hyn
               conv => whnf
               refine ⟨?_, ?_⟩
               · conv => whnf
                 refine cL0 (lacedN w0 (p := ⟨a, sq, q, d, [], m⟩) rfl) ?_
                 rintro _ _ ⟨rfl, rfl⟩
                 refine ⟨⟨⟨rfl, rfl⟩, trivial⟩, ?_⟩
                 conv => whnf
                 refine ⟨?_, ?_⟩
                 · conv => whnf
                   refine ⟨⟨⟨rfl, rfl⟩, trivial⟩, ?_⟩
                   conv => whnf
                   refine ⟨?_, ?_⟩
                   · conv => whnf
                     refine ⟨_, Ghost.refl w0 _, ?_⟩
                     conv => whnf
                     refine ⟨hml.symm, [none], ⟨rfl, rfl, rfl⟩, by rw [List.length_append, hml, List.length_singleton]; omega, by rw [List.length_append, hml, List.length_singleton]; omega, ?_⟩
                     conv => whnf
                     refine ⟨⟨⟨rfl, rfl⟩, trivial⟩, ?_⟩
                     conv => whnf
                     refine ⟨trivial, ?_⟩
                     conv => whnf
                     refine ⟨hml2.symm, [((q : Nat) : Int)], ⟨rfl, rfl, rfl⟩, by rw [List.length_append, hml2, List.length_singleton]; omega, by rw [List.length_append, hml2, List.length_singleton]; omega, ?_⟩
                     conv => whnf
                     refine ⟨trivial, ?_⟩
                     conv => whnf
                     refine ⟨⟨y0 :: (yr ++ [([], q)]), by rw [hyy']; rfl⟩, [0, 1, 7, 9, 4], ⟨rfl, ⟨rfl, rfl, rfl, rfl, ?_, rfl, ?_, rfl, ?_, rfl, trivial⟩, rfl⟩, ?_, ?_, rfl, rfl, rfl, rfl, trivial⟩
                     · show some (Blk.vec true 31 encL [4] 1 (rowsL 0 ((y0 :: yr).map Prod.fst) ++ [none])) = some (Blk.vec true 31 encL [4] 1 (rowsL 0 (((y0 :: yr) ++ [([], q)]).map Prod.fst)))
                       rw [List.map_append, show [([], q)].map Prod.fst = [[]] from rfl, rowsL_snoc, Nat.zero_add]
                       rfl
                     · show some (Blk.vec true 39 (encI .u64) [] 1 ((((y0 :: yr).map Prod.snd).map fun (n : Nat) => (n : Int)) ++ [((q : Nat) : Int)])) = some (grB (((y0 :: yr) ++ [([], q)]).map Prod.snd))
                       unfold grB
                       rw [List.map_append, List.map_append]
                       rfl
                     · show some (Blk.fam 9 encStr 1 (famL ((y0 :: yr).map Prod.fst))) = some (fmB (((y0 :: yr) ++ [([], q)]).map Prod.fst))
                       unfold fmB
                       rw [List.map_append, show [([], q)].map Prod.fst = [[]] from rfl, famL_nil]
                     · show some (AV.o (.c (CV.vec 7 (rowsL 0 ((y0 :: yr).map Prod.fst) ++ [none]).length))) = some (AV.o (.c (CV.vec 7 ((y0 :: yr) ++ [([], q)]).length)))
                       rw [List.length_append, rowsL_len, List.length_map, List.length_append]
                       rfl
                     · show some (AV.o (.c (CV.vec 9 ((((y0 :: yr).map Prod.snd).map fun (n : Nat) => (n : Int)) ++ [((q : Nat) : Int)]).length))) = some (AV.o (.c (CV.vec 9 ((y0 :: yr) ++ [([], q)]).length)))
                       rw [List.length_append, List.length_map, List.length_map, List.length_append]
                       rfl
                   · conv => whnf
                     refine ⟨trivial, ?_⟩
                     conv => whnf
                     refine ⟨_, Ghost.refl w0 _, ?_⟩
                     conv => whnf
                     refine ⟨hml.symm, [none], ⟨rfl, rfl, rfl⟩, by rw [List.length_append, hml, List.length_singleton]; omega, by rw [List.length_append, hml, List.length_singleton]; omega, ?_⟩
                     conv => whnf
                     refine ⟨trivial, ?_⟩
                     conv => whnf
                     refine ⟨hml2.symm, [((q : Nat) : Int)], ⟨rfl, rfl, rfl⟩, by rw [List.length_append, hml2, List.length_singleton]; omega, by rw [List.length_append, hml2, List.length_singleton]; omega, ?_⟩
                     conv => whnf
                     refine ⟨trivial, ?_⟩
                     conv => whnf
                     refine ⟨⟨y0 :: (yr ++ [([], q)]), by rw [hyy']; rfl⟩, [0, 1, 8, 9, 4], ⟨rfl, ⟨rfl, rfl, rfl, rfl, ?_, rfl, ?_, rfl, ?_, rfl, trivial⟩, rfl⟩, ?_, ?_, rfl, rfl, rfl, rfl, trivial⟩
                     · show some (Blk.vec true 31 encL [4] 1 (rowsL 0 ((y0 :: yr).map Prod.fst) ++ [none])) = some (Blk.vec true 31 encL [4] 1 (rowsL 0 (((y0 :: yr) ++ [([], q)]).map Prod.fst)))
                       rw [List.map_append, show [([], q)].map Prod.fst = [[]] from rfl, rowsL_snoc, Nat.zero_add]
                       rfl
                     · show some (Blk.vec true 39 (encI .u64) [] 1 ((((y0 :: yr).map Prod.snd).map fun (n : Nat) => (n : Int)) ++ [((q : Nat) : Int)])) = some (grB (((y0 :: yr) ++ [([], q)]).map Prod.snd))
                       unfold grB
                       rw [List.map_append, List.map_append]
                       rfl
                     · show some (Blk.fam 9 encStr 1 (famL ((y0 :: yr).map Prod.fst))) = some (fmB (((y0 :: yr) ++ [([], q)]).map Prod.fst))
                       unfold fmB
                       rw [List.map_append, show [([], q)].map Prod.fst = [[]] from rfl, famL_nil]
                     · show some (AV.o (.c (CV.vec 8 (rowsL 0 ((y0 :: yr).map Prod.fst) ++ [none]).length))) = some (AV.o (.c (CV.vec 8 ((y0 :: yr) ++ [([], q)]).length)))
                       rw [List.length_append, rowsL_len, List.length_map, List.length_append]
                       rfl
                     · show some (AV.o (.c (CV.vec 9 ((((y0 :: yr).map Prod.snd).map fun (n : Nat) => (n : Int)) ++ [((q : Nat) : Int)]).length))) = some (AV.o (.c (CV.vec 9 ((y0 :: yr) ++ [([], q)]).length)))
                       rw [List.length_append, List.length_map, List.length_map, List.length_append]
                       rfl
                 · conv => whnf
                   refine ⟨trivial, ?_⟩
                   conv => whnf
                   refine ⟨trivial, ?_⟩
                   conv => whnf
                   refine ⟨_, Ghost.refl w0 _, ?_⟩
                   conv => whnf
                   refine ⟨hml.symm, [none], ⟨rfl, rfl, rfl⟩, by rw [List.length_append, hml, List.length_singleton]; omega, by rw [List.length_append, hml, List.length_singleton]; omega, ?_⟩
                   conv => whnf
                   refine ⟨trivial, ?_⟩
                   conv => whnf
                   refine ⟨hml2.symm, [((q : Nat) : Int)], ⟨rfl, rfl, rfl⟩, by rw [List.length_append, hml2, List.length_singleton]; omega, by rw [List.length_append, hml2, List.length_singleton]; omega, ?_⟩
                   conv => whnf
                   refine ⟨trivial, ?_⟩
                   conv => whnf
                   refine ⟨⟨y0 :: (yr ++ [([], q)]), by rw [hyy']; rfl⟩, [0, 1, 8, 9, 4], ⟨rfl, ⟨rfl, rfl, rfl, rfl, ?_, rfl, ?_, rfl, ?_, rfl, trivial⟩, rfl⟩, ?_, ?_, rfl, rfl, rfl, rfl, trivial⟩
                   · show some (Blk.vec true 31 encL [4] 1 (rowsL 0 ((y0 :: yr).map Prod.fst) ++ [none])) = some (Blk.vec true 31 encL [4] 1 (rowsL 0 (((y0 :: yr) ++ [([], q)]).map Prod.fst)))
                     rw [List.map_append, show [([], q)].map Prod.fst = [[]] from rfl, rowsL_snoc, Nat.zero_add]
                     rfl
                   · show some (Blk.vec true 39 (encI .u64) [] 1 ((((y0 :: yr).map Prod.snd).map fun (n : Nat) => (n : Int)) ++ [((q : Nat) : Int)])) = some (grB (((y0 :: yr) ++ [([], q)]).map Prod.snd))
                     unfold grB
                     rw [List.map_append, List.map_append]
                     rfl
                   · show some (Blk.fam 9 encStr 1 (famL ((y0 :: yr).map Prod.fst))) = some (fmB (((y0 :: yr) ++ [([], q)]).map Prod.fst))
                     unfold fmB
                     rw [List.map_append, show [([], q)].map Prod.fst = [[]] from rfl, famL_nil]
                   · show some (AV.o (.c (CV.vec 8 (rowsL 0 ((y0 :: yr).map Prod.fst) ++ [none]).length))) = some (AV.o (.c (CV.vec 8 ((y0 :: yr) ++ [([], q)]).length)))
                     rw [List.length_append, rowsL_len, List.length_map, List.length_append]
                     rfl
                   · show some (AV.o (.c (CV.vec 9 ((((y0 :: yr).map Prod.snd).map fun (n : Nat) => (n : Int)) ++ [((q : Nat) : Int)]).length))) = some (AV.o (.c (CV.vec 9 ((y0 :: yr) ++ [([], q)]).length)))
                     rw [List.length_append, List.length_map, List.length_map, List.length_append]
                     rfl
               · conv => whnf
                 refine ⟨⟨⟨rfl, rfl⟩, trivial⟩, ?_⟩
                 conv => whnf
                 refine cL0 (lacedN w0 (p := ⟨a, sq, q, d, [], m⟩) rfl) ?_
                 rintro _ _ ⟨rfl, rfl⟩
                 refine ⟨trivial, ?_⟩
                 conv => whnf
                 refine ⟨trivial, ?_⟩
                 conv => whnf
                 refine ⟨_, Ghost.refl w0 _, ?_⟩
                 conv => whnf
                 refine ⟨hml.symm, [none], ⟨rfl, rfl, rfl⟩, by rw [List.length_append, hml, List.length_singleton]; omega, by rw [List.length_append, hml, List.length_singleton]; omega, ?_⟩
                 conv => whnf
                 refine ⟨trivial, ?_⟩
                 conv => whnf
                 refine ⟨hml2.symm, [((q : Nat) : Int)], ⟨rfl, rfl, rfl⟩, by rw [List.length_append, hml2, List.length_singleton]; omega, by rw [List.length_append, hml2, List.length_singleton]; omega, ?_⟩
                 conv => whnf
                 refine ⟨trivial, ?_⟩
                 conv => whnf
                 refine ⟨⟨y0 :: (yr ++ [([], q)]), by rw [hyy']; rfl⟩, [0, 1, 8, 9, 4], ⟨rfl, ⟨rfl, rfl, rfl, rfl, ?_, rfl, ?_, rfl, ?_, rfl, trivial⟩, rfl⟩, ?_, ?_, rfl, rfl, rfl, rfl, trivial⟩
                 · show some (Blk.vec true 31 encL [4] 1 (rowsL 0 ((y0 :: yr).map Prod.fst) ++ [none])) = some (Blk.vec true 31 encL [4] 1 (rowsL 0 (((y0 :: yr) ++ [([], q)]).map Prod.fst)))
                   rw [List.map_append, show [([], q)].map Prod.fst = [[]] from rfl, rowsL_snoc, Nat.zero_add]
                   rfl
                 · show some (Blk.vec true 39 (encI .u64) [] 1 ((((y0 :: yr).map Prod.snd).map fun (n : Nat) => (n : Int)) ++ [((q : Nat) : Int)])) = some (grB (((y0 :: yr) ++ [([], q)]).map Prod.snd))
                   unfold grB
                   rw [List.map_append, List.map_append]
                   rfl
                 · show some (Blk.fam 9 encStr 1 (famL ((y0 :: yr).map Prod.fst))) = some (fmB (((y0 :: yr) ++ [([], q)]).map Prod.fst))
                   unfold fmB
                   rw [List.map_append, show [([], q)].map Prod.fst = [[]] from rfl, famL_nil]
                 · show some (AV.o (.c (CV.vec 8 (rowsL 0 ((y0 :: yr).map Prod.fst) ++ [none]).length))) = some (AV.o (.c (CV.vec 8 ((y0 :: yr) ++ [([], q)]).length)))
                   rw [List.length_append, rowsL_len, List.length_map, List.length_append]
                   rfl
                 · show some (AV.o (.c (CV.vec 9 ((((y0 :: yr).map Prod.snd).map fun (n : Nat) => (n : Int)) ++ [((q : Nat) : Int)]).length))) = some (AV.o (.c (CV.vec 9 ((y0 :: yr) ++ [([], q)]).length)))
                   rw [List.length_append, List.length_map, List.length_map, List.length_append]
                   rfl
             | cons x0 xr =>
               have hlc := lacedC w0 (p := ⟨a, sq, q, d, x0 :: xr, m⟩) (xss := famOf ps) (k := f) (fun h => List.noConfusion rfl (heq_of_eq h)) (hfam (fun h => List.noConfusion rfl (heq_of_eq h))).2 (by omega)
               obtain ⟨z, hz⟩ : ∃ z, z = strsL (Pg.segs ⟨a, sq, q, d, x0 :: xr, m⟩) := ⟨_, rfl⟩
               rw [← hz] at hlc
               have hyn : yy2 = (y0 :: yr) ++ [(z, q)] := by rw [hz]; exact hyn
               cases z with
               | nil =>
                 have hyy' := hyn
                 conv => whnf
                 refine ⟨?_, ?_⟩
                 · conv => whnf
                   refine CallsA.lift (H0 := [.fam 9 encStr 1 (famOf ps)]) [1] rfl ⟨rfl, rfl, trivial⟩ rfl hlc ?_
                   rintro _ _ ⟨rfl, rfl⟩
                   refine ⟨⟨⟨rfl, rfl⟩, trivial⟩, ?_⟩
                   conv => whnf
                   refine ⟨?_, ?_⟩
                   · conv => whnf
                     refine ⟨⟨⟨rfl, rfl⟩, trivial⟩, ?_⟩
                     conv => whnf
                     refine ⟨?_, ?_⟩
                     · conv => whnf
                       refine ⟨_, Ghost.refl w0 _, ?_⟩
                       conv => whnf
                       refine ⟨hml.symm, [none], ⟨rfl, rfl, rfl⟩, by rw [List.length_append, hml, List.length_singleton]; omega, by rw [List.length_append, hml, List.length_singleton]; omega, ?_⟩
                       conv => whnf
                       refine ⟨⟨⟨rfl, rfl⟩, trivial⟩, ?_⟩
                       conv => whnf
                       refine ⟨trivial, ?_⟩
                       conv => whnf
                       refine ⟨hml2.symm, [((q : Nat) : Int)], ⟨rfl, rfl, rfl⟩, by rw [List.length_append, hml2, List.length_singleton]; omega, by rw [List.length_append, hml2, List.length_singleton]; omega, ?_⟩
                       conv => whnf
                       refine ⟨trivial, ?_⟩
                       conv => whnf
                       refine ⟨⟨y0 :: (yr ++ [([], q)]), by rw [hyy']; rfl⟩, [0, 1, 7, 9, 4], ⟨rfl, ⟨rfl, rfl, rfl, rfl, ?_, rfl, ?_, rfl, ?_, rfl, trivial⟩, rfl⟩, ?_, ?_, rfl, rfl, rfl, rfl, trivial⟩
                       · show some (Blk.vec true 31 encL [4] 1 (rowsL 0 ((y0 :: yr).map Prod.fst) ++ [none])) = some (Blk.vec true 31 encL [4] 1 (rowsL 0 (((y0 :: yr) ++ [([], q)]).map Prod.fst)))
                         rw [List.map_append, show [([], q)].map Prod.fst = [[]] from rfl, rowsL_snoc, Nat.zero_add]
                         rfl
                       · show some (Blk.vec true 39 (encI .u64) [] 1 ((((y0 :: yr).map Prod.snd).map fun (n : Nat) => (n : Int)) ++ [((q : Nat) : Int)])) = some (grB (((y0 :: yr) ++ [([], q)]).map Prod.snd))
                         unfold grB
                         rw [List.map_append, List.map_append]
                         rfl
                       · show some (Blk.fam 9 encStr 1 (famL ((y0 :: yr).map Prod.fst))) = some (fmB (((y0 :: yr) ++ [([], q)]).map Prod.fst))
                         unfold fmB
                         rw [List.map_append, show [([], q)].map Prod.fst = [[]] from rfl, famL_nil]
                       · show some (AV.o (.c (CV.vec 7 (rowsL 0 ((y0 :: yr).map Prod.fst) ++ [none]).length))) = some (AV.o (.c (CV.vec 7 ((y0 :: yr) ++ [([], q)]).length)))
                         rw [List.length_append, rowsL_len, List.length_map, List.length_append]
                         rfl
                       · show some (AV.o (.c (CV.vec 9 ((((y0 :: yr).map Prod.snd).map fun (n : Nat) => (n : Int)) ++ [((q : Nat) : Int)]).length))) = some (AV.o (.c (CV.vec 9 ((y0 :: yr) ++ [([], q)]).length)))
                         rw [List.length_append, List.length_map, List.length_map, List.length_append]
                         rfl
                     · conv => whnf
                       refine ⟨trivial, ?_⟩
                       conv => whnf
                       refine ⟨_, Ghost.refl w0 _, ?_⟩
                       conv => whnf
                       refine ⟨hml.symm, [none], ⟨rfl, rfl, rfl⟩, by rw [List.length_append, hml, List.length_singleton]; omega, by rw [List.length_append, hml, List.length_singleton]; omega, ?_⟩
                       conv => whnf
                       refine ⟨trivial, ?_⟩
                       conv => whnf
                       refine ⟨hml2.symm, [((q : Nat) : Int)], ⟨rfl, rfl, rfl⟩, by rw [List.length_append, hml2, List.length_singleton]; omega, by rw [List.length_append, hml2, List.length_singleton]; omega, ?_⟩
                       conv => whnf
                       refine ⟨trivial, ?_⟩
                       conv => whnf
                       refine ⟨⟨y0 :: (yr ++ [([], q)]), by rw [hyy']; rfl⟩, [0, 1, 8, 9, 4], ⟨rfl, ⟨rfl, rfl, rfl, rfl, ?_, rfl, ?_, rfl, ?_, rfl, trivial⟩, rfl⟩, ?_, ?_, rfl, rfl, rfl, rfl, trivial⟩
                       · show some (Blk.vec true 31 encL [4] 1 (rowsL 0 ((y0 :: yr).map Prod.fst) ++ [none])) = some (Blk.vec true 31 encL [4] 1 (rowsL 0 (((y0 :: yr) ++ [([], q)]).map Prod.fst)))
                         rw [List.map_append, show [([], q)].map Prod.fst = [[]] from rfl, rowsL_snoc, Nat.zero_add]
                         rfl
                       · show some (Blk.vec true 39 (encI .u64) [] 1 ((((y0 :: yr).map Prod.snd).map fun (n : Nat) => (n : Int)) ++ [((q : Nat) : Int)])) = some (grB (((y0 :: yr) ++ [([], q)]).map Prod.snd))
                         unfold grB
                         rw [List.map_append, List.map_append]
                         rfl
                       · show some (Blk.fam 9 encStr 1 (famL ((y0 :: yr).map Prod.fst))) = some (fmB (((y0 :: yr) ++ [([], q)]).map Prod.fst))
                         unfold fmB
                         rw [List.map_append, show [([], q)].map Prod.fst = [[]] from rfl, famL_nil]
                       · show some (AV.o (.c (CV.vec 8 (rowsL 0 ((y0 :: yr).map Prod.fst) ++ [none]).length))) = some (AV.o (.c (CV.vec 8 ((y0 :: yr) ++ [([], q)]).length)))
                         rw [List.length_append, rowsL_len, List.length_map, List.length_append]
                         rfl
                       · show some (AV.o (.c (CV.vec 9 ((((y0 :: yr).map Prod.snd).map fun (n : Nat) => (n : Int)) ++ [((q : Nat) : Int)]).length))) = some (AV.o (.c (CV.vec 9 ((y0 :: yr) ++ [([], q)]).length)))
                         rw [List.length_append, List.length_map, List.length_map, List.length_append]
                         rfl
                   · conv => whnf
                     refine ⟨trivial, ?_⟩
                     conv => whnf
                     refine ⟨trivial, ?_⟩
                     conv => whnf
                     refine ⟨_, Ghost.refl w0 _, ?_⟩
                     conv => whnf
                     refine ⟨hml.symm, [none], ⟨rfl, rfl, rfl⟩, by rw [List.length_append, hml, List.length_singleton]; omega, by rw [List.length_append, hml, List.length_singleton]; omega, ?_⟩
                     conv => whnf
                     refine ⟨trivial, ?_⟩
                     conv => whnf
                     refine ⟨hml2.symm, [((q : Nat) : Int)], ⟨rfl, rfl, rfl⟩, by rw [List.length_append, hml2, List.length_singleton]; omega, by rw [List.length_append, hml2, List.length_singleton]; omega, ?_⟩
                     conv => whnf
                     refine ⟨trivial, ?_⟩
                     conv => whnf
                     refine ⟨⟨y0 :: (yr ++ [([], q)]), by rw [hyy']; rfl⟩, [0, 1, 8, 9, 4], ⟨rfl, ⟨rfl, rfl, rfl, rfl, ?_, rfl, ?_, rfl, ?_, rfl, trivial⟩, rfl⟩, ?_, ?_, rfl, rfl, rfl, rfl, trivial⟩
                     · show some (Blk.vec true 31 encL [4] 1 (rowsL 0 ((y0 :: yr).map Prod.fst) ++ [none])) = some (Blk.vec true 31 encL [4] 1 (rowsL 0 (((y0 :: yr) ++ [([], q)]).map Prod.fst)))
                       rw [List.map_append, show [([], q)].map Prod.fst = [[]] from rfl, rowsL_snoc, Nat.zero_add]
                       rfl
                     · show some (Blk.vec true 39 (encI .u64) [] 1 ((((y0 :: yr).map Prod.snd).map fun (n : Nat) => (n : Int)) ++ [((q : Nat) : Int)])) = some (grB (((y0 :: yr) ++ [([], q)]).map Prod.snd))
                       unfold grB
                       rw [List.map_append, List.map_append]
                       rfl
                     · show some (Blk.fam 9 encStr 1 (famL ((y0 :: yr).map Prod.fst))) = some (fmB (((y0 :: yr) ++ [([], q)]).map Prod.fst))
                       unfold fmB
                       rw [List.map_append, show [([], q)].map Prod.fst = [[]] from rfl, famL_nil]
                     · show some (AV.o (.c (CV.vec 8 (rowsL 0 ((y0 :: yr).map Prod.fst) ++ [none]).length))) = some (AV.o (.c (CV.vec 8 ((y0 :: yr) ++ [([], q)]).length)))
                       rw [List.length_append, rowsL_len, List.length_map, List.length_append]
                       rfl
                     · show some (AV.o (.c (CV.vec 9 ((((y0 :: yr).map Prod.snd).map fun (n : Nat) => (n : Int)) ++ [((q : Nat) : Int)]).length))) = some (AV.o (.c (CV.vec 9 ((y0 :: yr) ++ [([], q)]).length)))
                       rw [List.length_append, List.length_map, List.length_map, List.length_append]
                       rfl
                 · conv => whnf
                   refine ⟨⟨⟨rfl, rfl⟩, trivial⟩, ?_⟩
                   conv => whnf
                   refine CallsA.lift (H0 := [.fam 9 encStr 1 (famOf ps)]) [1] rfl ⟨rfl, rfl, trivial⟩ rfl hlc ?_
                   rintro _ _ ⟨rfl, rfl⟩
                   refine ⟨trivial, ?_⟩
                   conv => whnf
                   refine ⟨trivial, ?_⟩
                   conv => whnf
                   refine ⟨_, Ghost.refl w0 _, ?_⟩
                   conv => whnf
                   refine ⟨hml.symm, [none], ⟨rfl, rfl, rfl⟩, by rw [List.length_append, hml, List.length_singleton]; omega, by rw [List.length_append, hml, List.length_singleton]; omega, ?_⟩
                   conv => whnf
                   refine ⟨trivial, ?_⟩
                   conv => whnf
                   refine ⟨hml2.symm, [((q : Nat) : Int)], ⟨rfl, rfl, rfl⟩, by rw [List.length_append, hml2, List.length_singleton]; omega, by rw [List.length_append, hml2, List.length_singleton]; omega, ?_⟩
                   conv => whnf
                   refine ⟨trivial, ?_⟩
                   conv => whnf
                   refine ⟨⟨y0 :: (yr ++ [([], q)]), by rw [hyy']; rfl⟩, [0, 1, 8, 9, 4], ⟨rfl, ⟨rfl, rfl, rfl, rfl, ?_, rfl, ?_, rfl, ?_, rfl, trivial⟩, rfl⟩, ?_, ?_, rfl, rfl, rfl, rfl, trivial⟩
                   · show some (Blk.vec true 31 encL [4] 1 (rowsL 0 ((y0 :: yr).map Prod.fst) ++ [none])) = some (Blk.vec true 31 encL [4] 1 (rowsL 0 (((y0 :: yr) ++ [([], q)]).map Prod.fst)))
                     rw [List.map_append, show [([], q)].map Prod.fst = [[]] from rfl, rowsL_snoc, Nat.zero_add]
                     rfl
                   · show some (Blk.vec true 39 (encI .u64) [] 1 ((((y0 :: yr).map Prod.snd).map fun (n : Nat) => (n : Int)) ++ [((q : Nat) : Int)])) = some (grB (((y0 :: yr) ++ [([], q)]).map Prod.snd))
                     unfold grB
                     rw [List.map_append, List.map_append]
                     rfl
                   · show some (Blk.fam 9 encStr 1 (famL ((y0 :: yr).map Prod.fst))) = some (fmB (((y0 :: yr) ++ [([], q)]).map Prod.fst))
                     unfold fmB
                     rw [List.map_append, show [([], q)].map Prod.fst = [[]] from rfl, famL_nil]
                   · show some (AV.o (.c (CV.vec 8 (rowsL 0 ((y0 :: yr).map Prod.fst) ++ [none]).length))) = some (AV.o (.c (CV.vec 8 ((y0 :: yr) ++ [([], q)]).length)))
                     rw [List.length_append, rowsL_len, List.length_map, List.length_append]
                     rfl
                   · show some (AV.o (.c (CV.vec 9 ((((y0 :: yr).map Prod.snd).map fun (n : Nat) => (n : Int)) ++ [((q : Nat) : Int)]).length))) = some (AV.o (.c (CV.vec 9 ((y0 :: yr) ++ [([], q)]).length)))
                     rw [List.length_append, List.length_map, List.length_map, List.length_append]
                     rfl
               | cons z0 zr =>
                 have hyy' := hyn
                 conv => whnf
                 refine ⟨?_, ?_⟩
                 · conv => whnf
                   refine CallsA.lift (H0 := [.fam 9 encStr 1 (famOf ps)]) [1] rfl ⟨rfl, rfl, trivial⟩ rfl hlc ?_
                   rintro _ _ ⟨rfl, rfl⟩
                   refine ⟨⟨⟨rfl, rfl⟩, trivial⟩, ?_⟩
                   conv => whnf
                   refine ⟨?_, ?_⟩
                   · conv => whnf
                     refine ⟨⟨⟨rfl, rfl⟩, trivial⟩, ?_⟩
                     conv => whnf
                     refine ⟨?_, ?_⟩
                     · conv => whnf
                       refine ⟨[pgsB 1 ps, famB ps, outL 8 ((y0 :: yr).map Prod.fst), grB ((y0 :: yr).map Prod.snd), .dead, .cells 57 (pgM ⟨a, sq, q, d, x0 :: xr, m⟩ 1 f), .dead, .cells 31 [.mem 8 (famL ((y0 :: yr).map Prod.fst)).length (z0 :: zr).length]] ++ [.fam 9 encStr 1 (famL ((y0 :: yr).map Prod.fst) ++ [z0 :: zr])], Ghost.joinL 4 6 (H := [pgsB 1 ps, famB ps, outL 4 ((y0 :: yr).map Prod.fst), grB ((y0 :: yr).map Prod.snd), fmB ((y0 :: yr).map Prod.fst), .cells 57 (pgM ⟨a, sq, q, d, x0 :: xr, m⟩ 1 f), strB (z0 :: zr), .cells 31 [.vec 6 (z0 :: zr).length]]) (H1 := [pgsB 1 ps, famB ps, outL 8 ((y0 :: yr).map Prod.fst), grB ((y0 :: yr).map Prod.snd), .dead, .cells 57 (pgM ⟨a, sq, q, d, x0 :: xr, m⟩ 1 f), .dead, .cells 31 [.mem 8 (famL ((y0 :: yr).map Prod.fst)).length (z0 :: zr).length]]) (xss := famL ((y0 :: yr).map Prod.fst)) (zs := z0 :: zr) (wr := true) rfl rfl ⟨.keep (by decide) (by decide), .keep (by decide) (by decide), .vec (by decide) (by decide) rfl (fun x => encL_len _ x) (flatL_tau _ _ _ _ _).symm, .keep (by decide) (by decide), .dead, .keep (by decide) (by decide), .dead, .cells (by decide) (by decide) rfl, trivial⟩, ?_⟩
                       conv => whnf
                       refine ⟨hml.symm, [some ((famL ((y0 :: yr).map Prod.fst)).length, (z0 :: zr).length)], ⟨rfl, rfl, rfl⟩, by rw [List.length_append, hml, List.length_singleton]; omega, by rw [List.length_append, hml, List.length_singleton]; omega, ?_⟩
                       conv => whnf
                       refine ⟨⟨⟨rfl, rfl⟩, trivial⟩, ?_⟩
                       conv => whnf
                       refine ⟨trivial, ?_⟩
                       conv => whnf
                       refine ⟨hml2.symm, [((q : Nat) : Int)], ⟨rfl, rfl, rfl⟩, by rw [List.length_append, hml2, List.length_singleton]; omega, by rw [List.length_append, hml2, List.length_singleton]; omega, ?_⟩
                       conv => whnf
                       refine ⟨trivial, ?_⟩
                       conv => whnf
                       refine ⟨⟨y0 :: (yr ++ [(z0 :: zr, q)]), by rw [hyy']; rfl⟩, [0, 1, 9, 11, 8], ⟨rfl, ⟨rfl, rfl, rfl, rfl, ?_, rfl, ?_, rfl, ?_, rfl, trivial⟩, rfl⟩, ?_, ?_, rfl, rfl, rfl, rfl, trivial⟩
                       · show some (Blk.vec true 31 encL [8] 1 (rowsL 0 ((y0 :: yr).map Prod.fst) ++ [some ((famL ((y0 :: yr).map Prod.fst)).length, (z0 :: zr).length)])) = some (Blk.vec true 31 encL [8] 1 (rowsL 0 (((y0 :: yr) ++ [(z0 :: zr, q)]).map Prod.fst)))
                         rw [List.map_append, show [(z0 :: zr, q)].map Prod.fst = [z0 :: zr] from rfl, rowsL_snoc, Nat.zero_add]
                         rfl
                       · show some (Blk.vec true 39 (encI .u64) [] 1 ((((y0 :: yr).map Prod.snd).map fun (n : Nat) => (n : Int)) ++ [((q : Nat) : Int)])) = some (grB (((y0 :: yr) ++ [(z0 :: zr, q)]).map Prod.snd))
                         unfold grB
                         rw [List.map_append, List.map_append]
                         rfl
                       · show some (Blk.fam 9 encStr 1 (famL ((y0 :: yr).map Prod.fst) ++ [z0 :: zr])) = some (fmB (((y0 :: yr) ++ [(z0 :: zr, q)]).map Prod.fst))
                         unfold fmB
                         rw [List.map_append, show [(z0 :: zr, q)].map Prod.fst = [z0 :: zr] from rfl, famL_cons]
                       · show some (AV.o (.c (CV.vec 9 (rowsL 0 ((y0 :: yr).map Prod.fst) ++ [some ((famL ((y0 :: yr).map Prod.fst)).length, (z0 :: zr).length)]).length))) = some (AV.o (.c (CV.vec 9 ((y0 :: yr) ++ [(z0 :: zr, q)]).length)))
                         rw [List.length_append, rowsL_len, List.length_map, List.length_append]
                         rfl
                       · show some (AV.o (.c (CV.vec 11 ((((y0 :: yr).map Prod.snd).map fun (n : Nat) => (n : Int)) ++ [((q : Nat) : Int)]).length))) = some (AV.o (.c (CV.vec 11 ((y0 :: yr) ++ [(z0 :: zr, q)]).length)))
                         rw [List.length_append, List.length_map, List.length_map, List.length_append]
                         rfl
                     · conv => whnf
                       refine ⟨trivial, ?_⟩
                       conv => whnf
                       refine ⟨[pgsB 1 ps, famB ps, outL 9 ((y0 :: yr).map Prod.fst), grB ((y0 :: yr).map Prod.snd), .dead, .cells 57 (pgM ⟨a, sq, q, d, x0 :: xr, m⟩ 1 f), .dead, .cells 31 [.mem 9 (famL ((y0 :: yr).map Prod.fst)).length (z0 :: zr).length], .cells 39 [.val (.int .u64 ((q : Nat) : Int))]] ++ [.fam 9 encStr 1 (famL ((y0 :: yr).map Prod.fst) ++ [z0 :: zr])], Ghost.joinL 4 6 (H := [pgsB 1 ps, famB ps, outL 4 ((y0 :: yr).map Prod.fst), grB ((y0 :: yr).map Prod.snd), fmB ((y0 :: yr).map Prod.fst), .cells 57 (pgM ⟨a, sq, q, d, x0 :: xr, m⟩ 1 f), strB (z0 :: zr), .cells 31 [.vec 6 (z0 :: zr).length], .cells 39 [.val (.int .u64 ((q : Nat) : Int))]]) (H1 := [pgsB 1 ps, famB ps, outL 9 ((y0 :: yr).map Prod.fst), grB ((y0 :: yr).map Prod.snd), .dead, .cells 57 (pgM ⟨a, sq, q, d, x0 :: xr, m⟩ 1 f), .dead, .cells 31 [.mem 9 (famL ((y0 :: yr).map Prod.fst)).length (z0 :: zr).length], .cells 39 [.val (.int .u64 ((q : Nat) : Int))]]) (xss := famL ((y0 :: yr).map Prod.fst)) (zs := z0 :: zr) (wr := true) rfl rfl ⟨.keep (by decide) (by decide), .keep (by decide) (by decide), .vec (by decide) (by decide) rfl (fun x => encL_len _ x) (flatL_tau _ _ _ _ _).symm, .keep (by decide) (by decide), .dead, .keep (by decide) (by decide), .dead, .cells (by decide) (by decide) rfl, .keep (by decide) (by decide), trivial⟩, ?_⟩
                       conv => whnf
                       refine ⟨hml.symm, [some ((famL ((y0 :: yr).map Prod.fst)).length, (z0 :: zr).length)], ⟨rfl, rfl, rfl⟩, by rw [List.length_append, hml, List.length_singleton]; omega, by rw [List.length_append, hml, List.length_singleton]; omega, ?_⟩
                       conv => whnf
                       refine ⟨trivial, ?_⟩
                       conv => whnf
                       refine ⟨hml2.symm, [((q : Nat) : Int)], ⟨rfl, rfl, rfl⟩, by rw [List.length_append, hml2, List.length_singleton]; omega, by rw [List.length_append, hml2, List.length_singleton]; omega, ?_⟩
                       conv => whnf
                       refine ⟨trivial, ?_⟩
                       conv => whnf
                       refine ⟨⟨y0 :: (yr ++ [(z0 :: zr, q)]), by rw [hyy']; rfl⟩, [0, 1, 10, 11, 9], ⟨rfl, ⟨rfl, rfl, rfl, rfl, ?_, rfl, ?_, rfl, ?_, rfl, trivial⟩, rfl⟩, ?_, ?_, rfl, rfl, rfl, rfl, trivial⟩
                       · show some (Blk.vec true 31 encL [9] 1 (rowsL 0 ((y0 :: yr).map Prod.fst) ++ [some ((famL ((y0 :: yr).map Prod.fst)).length, (z0 :: zr).length)])) = some (Blk.vec true 31 encL [9] 1 (rowsL 0 (((y0 :: yr) ++ [(z0 :: zr, q)]).map Prod.fst)))
                         rw [List.map_append, show [(z0 :: zr, q)].map Prod.fst = [z0 :: zr] from rfl, rowsL_snoc, Nat.zero_add]
                         rfl
                       · show some (Blk.vec true 39 (encI .u64) [] 1 ((((y0 :: yr).map Prod.snd).map fun (n : Nat) => (n : Int)) ++ [((q : Nat) : Int)])) = some (grB (((y0 :: yr) ++ [(z0 :: zr, q)]).map Prod.snd))
                         unfold grB
                         rw [List.map_append, List.map_append]
                         rfl
                       · show some (Blk.fam 9 encStr 1 (famL ((y0 :: yr).map Prod.fst) ++ [z0 :: zr])) = some (fmB (((y0 :: yr) ++ [(z0 :: zr, q)]).map Prod.fst))
                         unfold fmB
                         rw [List.map_append, show [(z0 :: zr, q)].map Prod.fst = [z0 :: zr] from rfl, famL_cons]
                       · show some (AV.o (.c (CV.vec 10 (rowsL 0 ((y0 :: yr).map Prod.fst) ++ [some ((famL ((y0 :: yr).map Prod.fst)).length, (z0 :: zr).length)]).length))) = some (AV.o (.c (CV.vec 10 ((y0 :: yr) ++ [(z0 :: zr, q)]).length)))
                         rw [List.length_append, rowsL_len, List.length_map, List.length_append]
                         rfl
                       · show some (AV.o (.c (CV.vec 11 ((((y0 :: yr).map Prod.snd).map fun (n : Nat) => (n : Int)) ++ [((q : Nat) : Int)]).length))) = some (AV.o (.c (CV.vec 11 ((y0 :: yr) ++ [(z0 :: zr, q)]).length)))
                         rw [List.length_append, List.length_map, List.length_map, List.length_append]
                         rfl
                   · conv => whnf
                     refine ⟨trivial, ?_⟩
                     conv => whnf
                     refine ⟨trivial, ?_⟩
                     conv => whnf
                     refine ⟨[pgsB 1 ps, famB ps, outL 9 ((y0 :: yr).map Prod.fst), grB ((y0 :: yr).map Prod.snd), .dead, .cells 57 (pgM ⟨a, sq, q, d, x0 :: xr, m⟩ 1 f), .dead, .cells 39 [.val (.int .u64 ((q : Nat) : Int))], .cells 31 [.mem 9 (famL ((y0 :: yr).map Prod.fst)).length (z0 :: zr).length]] ++ [.fam 9 encStr 1 (famL ((y0 :: yr).map Prod.fst) ++ [z0 :: zr])], Ghost.joinL 4 6 (H := [pgsB 1 ps, famB ps, outL 4 ((y0 :: yr).map Prod.fst), grB ((y0 :: yr).map Prod.snd), fmB ((y0 :: yr).map Prod.fst), .cells 57 (pgM ⟨a, sq, q, d, x0 :: xr, m⟩ 1 f), strB (z0 :: zr), .cells 39 [.val (.int .u64 ((q : Nat) : Int))], .cells 31 [.vec 6 (z0 :: zr).length]]) (H1 := [pgsB 1 ps, famB ps, outL 9 ((y0 :: yr).map Prod.fst), grB ((y0 :: yr).map Prod.snd), .dead, .cells 57 (pgM ⟨a, sq, q, d, x0 :: xr, m⟩ 1 f), .dead, .cells 39 [.val (.int .u64 ((q : Nat) : Int))], .cells 31 [.mem 9 (famL ((y0 :: yr).map Prod.fst)).length (z0 :: zr).length]]) (xss := famL ((y0 :: yr).map Prod.fst)) (zs := z0 :: zr) (wr := true) rfl rfl ⟨.keep (by decide) (by decide), .keep (by decide) (by decide), .vec (by decide) (by decide) rfl (fun x => encL_len _ x) (flatL_tau _ _ _ _ _).symm, .keep (by decide) (by decide), .dead, .keep (by decide) (by decide), .dead, .keep (by decide) (by decide), .cells (by decide) (by decide) rfl, trivial⟩, ?_⟩
                     conv => whnf
                     refine ⟨hml.symm, [some ((famL ((y0 :: yr).map Prod.fst)).length, (z0 :: zr).length)], ⟨rfl, rfl, rfl⟩, by rw [List.length_append, hml, List.length_singleton]; omega, by rw [List.length_append, hml, List.length_singleton]; omega, ?_⟩
                     conv => whnf
                     refine ⟨trivial, ?_⟩
                     conv => whnf
                     refine ⟨hml2.symm, [((q : Nat) : Int)], ⟨rfl, rfl, rfl⟩, by rw [List.length_append, hml2, List.length_singleton]; omega, by rw [List.length_append, hml2, List.length_singleton]; omega, ?_⟩
                     conv => whnf
                     refine ⟨trivial, ?_⟩
                     conv => whnf
                     refine ⟨⟨y0 :: (yr ++ [(z0 :: zr, q)]), by rw [hyy']; rfl⟩, [0, 1, 10, 11, 9], ⟨rfl, ⟨rfl, rfl, rfl, rfl, ?_, rfl, ?_, rfl, ?_, rfl, trivial⟩, rfl⟩, ?_, ?_, rfl, rfl, rfl, rfl, trivial⟩
                     · show some (Blk.vec true 31 encL [9] 1 (rowsL 0 ((y0 :: yr).map Prod.fst) ++ [some ((famL ((y0 :: yr).map Prod.fst)).length, (z0 :: zr).length)])) = some (Blk.vec true 31 encL [9] 1 (rowsL 0 (((y0 :: yr) ++ [(z0 :: zr, q)]).map Prod.fst)))
                       rw [List.map_append, show [(z0 :: zr, q)].map Prod.fst = [z0 :: zr] from rfl, rowsL_snoc, Nat.zero_add]
                       rfl
                     · show some (Blk.vec true 39 (encI .u64) [] 1 ((((y0 :: yr).map Prod.snd).map fun (n : Nat) => (n : Int)) ++ [((q : Nat) : Int)])) = some (grB (((y0 :: yr) ++ [(z0 :: zr, q)]).map Prod.snd))
                       unfold grB
                       rw [List.map_append, List.map_append]
                       rfl
                     · show some (Blk.fam 9 encStr 1 (famL ((y0 :: yr).map Prod.fst) ++ [z0 :: zr])) = some (fmB (((y0 :: yr) ++ [(z0 :: zr, q)]).map Prod.fst))
                       unfold fmB
                       rw [List.map_append, show [(z0 :: zr, q)].map Prod.fst = [z0 :: zr] from rfl, famL_cons]
                     · show some (AV.o (.c (CV.vec 10 (rowsL 0 ((y0 :: yr).map Prod.fst) ++ [some ((famL ((y0 :: yr).map Prod.fst)).length, (z0 :: zr).length)]).length))) = some (AV.o (.c (CV.vec 10 ((y0 :: yr) ++ [(z0 :: zr, q)]).length)))
                       rw [List.length_append, rowsL_len, List.length_map, List.length_append]
                       rfl
                     · show some (AV.o (.c (CV.vec 11 ((((y0 :: yr).map Prod.snd).map fun (n : Nat) => (n : Int)) ++ [((q : Nat) : Int)]).length))) = some (AV.o (.c (CV.vec 11 ((y0 :: yr) ++ [(z0 :: zr, q)]).length)))
                       rw [List.length_append, List.length_map, List.length_map, List.length_append]
                       rfl
                 · conv => whnf
                   refine ⟨⟨⟨rfl, rfl⟩, trivial⟩, ?_⟩
                   conv => whnf
                   refine CallsA.lift (H0 := [.fam 9 encStr 1 (famOf ps)]) [1] rfl ⟨rfl, rfl, trivial⟩ rfl hlc ?_
                   rintro _ _ ⟨rfl, rfl⟩
                   refine ⟨trivial, ?_⟩
                   conv => whnf
                   refine ⟨trivial, ?_⟩
                   conv => whnf
                   refine ⟨[pgsB 1 ps, famB ps, outL 9 ((y0 :: yr).map Prod.fst), grB ((y0 :: yr).map Prod.snd), .dead, .cells 57 (pgM ⟨a, sq, q, d, x0 :: xr, m⟩ 1 f), .cells 39 [.val (.int .u64 ((q : Nat) : Int))], .dead, .cells 31 [.mem 9 (famL ((y0 :: yr).map Prod.fst)).length (z0 :: zr).length]] ++ [.fam 9 encStr 1 (famL ((y0 :: yr).map Prod.fst) ++ [z0 :: zr])], Ghost.joinL 4 7 (H := [pgsB 1 ps, famB ps, outL 4 ((y0 :: yr).map Prod.fst), grB ((y0 :: yr).map Prod.snd), fmB ((y0 :: yr).map Prod.fst), .cells 57 (pgM ⟨a, sq, q, d, x0 :: xr, m⟩ 1 f), .cells 39 [.val (.int .u64 ((q : Nat) : Int))], strB (z0 :: zr), .cells 31 [.vec 7 (z0 :: zr).length]]) (H1 := [pgsB 1 ps, famB ps, outL 9 ((y0 :: yr).map Prod.fst), grB ((y0 :: yr).map Prod.snd), .dead, .cells 57 (pgM ⟨a, sq, q, d, x0 :: xr, m⟩ 1 f), .cells 39 [.val (.int .u64 ((q : Nat) : Int))], .dead, .cells 31 [.mem 9 (famL ((y0 :: yr).map Prod.fst)).length (z0 :: zr).length]]) (xss := famL ((y0 :: yr).map Prod.fst)) (zs := z0 :: zr) (wr := true) rfl rfl ⟨.keep (by decide) (by decide), .keep (by decide) (by decide), .vec (by decide) (by decide) rfl (fun x => encL_len _ x) (flatL_tau _ _ _ _ _).symm, .keep (by decide) (by decide), .dead, .keep (by decide) (by decide), .keep (by decide) (by decide), .dead, .cells (by decide) (by decide) rfl, trivial⟩, ?_⟩
                   conv => whnf
                   refine ⟨hml.symm, [some ((famL ((y0 :: yr).map Prod.fst)).length, (z0 :: zr).length)], ⟨rfl, rfl, rfl⟩, by rw [List.length_append, hml, List.length_singleton]; omega, by rw [List.length_append, hml, List.length_singleton]; omega, ?_⟩
                   conv => whnf
                   refine ⟨trivial, ?_⟩
                   conv => whnf
                   refine ⟨hml2.symm, [((q : Nat) : Int)], ⟨rfl, rfl, rfl⟩, by rw [List.length_append, hml2, List.length_singleton]; omega, by rw [List.length_append, hml2, List.length_singleton]; omega, ?_⟩
                   conv => whnf
                   refine ⟨trivial, ?_⟩
                   conv => whnf
                   refine ⟨⟨y0 :: (yr ++ [(z0 :: zr, q)]), by rw [hyy']; rfl⟩, [0, 1, 10, 11, 9], ⟨rfl, ⟨rfl, rfl, rfl, rfl, ?_, rfl, ?_, rfl, ?_, rfl, trivial⟩, rfl⟩, ?_, ?_, rfl, rfl, rfl, rfl, trivial⟩
                   · show some (Blk.vec true 31 encL [9] 1 (rowsL 0 ((y0 :: yr).map Prod.fst) ++ [some ((famL ((y0 :: yr).map Prod.fst)).length, (z0 :: zr).length)])) = some (Blk.vec true 31 encL [9] 1 (rowsL 0 (((y0 :: yr) ++ [(z0 :: zr, q)]).map Prod.fst)))
                     rw [List.map_append, show [(z0 :: zr, q)].map Prod.fst = [z0 :: zr] from rfl, rowsL_snoc, Nat.zero_add]
                     rfl
                   · show some (Blk.vec true 39 (encI .u64) [] 1 ((((y0 :: yr).map Prod.snd).map fun (n : Nat) => (n : Int)) ++ [((q : Nat) : Int)])) = some (grB (((y0 :: yr) ++ [(z0 :: zr, q)]).map Prod.snd))
                     unfold grB
                     rw [List.map_append, List.map_append]
                     rfl
                   · show some (Blk.fam 9 encStr 1 (famL ((y0 :: yr).map Prod.fst) ++ [z0 :: zr])) = some (fmB (((y0 :: yr) ++ [(z0 :: zr, q)]).map Prod.fst))
                     unfold fmB
                     rw [List.map_append, show [(z0 :: zr, q)].map Prod.fst = [z0 :: zr] from rfl, famL_cons]
                   · show some (AV.o (.c (CV.vec 10 (rowsL 0 ((y0 :: yr).map Prod.fst) ++ [some ((famL ((y0 :: yr).map Prod.fst)).length, (z0 :: zr).length)]).length))) = some (AV.o (.c (CV.vec 10 ((y0 :: yr) ++ [(z0 :: zr, q)]).length)))
                     rw [List.length_append, rowsL_len, List.length_map, List.length_append]
                     rfl
                   · show some (AV.o (.c (CV.vec 11 ((((y0 :: yr).map Prod.snd).map fun (n : Nat) => (n : Int)) ++ [((q : Nat) : Int)]).length))) = some (AV.o (.c (CV.vec 11 ((y0 :: yr) ++ [(z0 :: zr, q)]).length)))
                     rw [List.length_append, List.length_map, List.length_map, List.length_append]
                     rfl
       
           · have hyl2 : yy2.length = i + 1 := by rw [hyy2, List.length_map, List.length_take]; omega
             cases yy' with
             | nil =>
               rw [← hyy'] at hyl2
               exact absurd hyl2 (by simp)
             | cons w1 wr =>
               conv => whnf
               exact ⟨⟨(i + 1, w1 :: wr), g, hyy'.trans hyy2⟩, ⟨[0, 1, 2, 3, 4], ⟨rfl, ⟨rfl, rfl, rfl, rfl, rfl, rfl, rfl, rfl, rfl, rfl, trivial⟩, rfl⟩, rfl, rfl, rfl, rfl, rfl, eq_i64 (by rw [nadd, nwrapi (by omega)]), trivial⟩, by show pr.length - (i + 1) < pr.length - i; omega⟩
         · have g : pr.length ≤ i := lt_f g
           rw [List.take_of_length_le g, ← hYl] at hyy
           conv => whnf
           exact ⟨⟨y0 :: yr, hyy.symm⟩, [0, 1, 2, 3, 4], ⟨rfl, ⟨rfl, rfl, rfl, rfl, rfl, rfl, rfl, rfl, rfl, rfl, trivial⟩, rfl⟩, rfl, rfl, rfl, trivial⟩
     · have hl0 : pr = [] := List.eq_nil_of_length_eq_zero (by
         have h3 : (p0 :: pr).length = pr.length + 1 := rfl
         omega)
       subst hl0
       have hY0 : Y = [] := hYl
       conv => whnf
       refine ⟨Unit, fun _ => ⟨bhE wh 0 0 0 0 [], [pgsB 1 [p0], famB [p0]]⟩, fun _ => 0, ⟨(), [0, 1], ⟨rfl, ⟨rfl, rfl, rfl, rfl, trivial⟩, rfl⟩, rfl, rfl, rfl, rfl, rfl, rfl, trivial⟩, fun _ => ?_⟩
       conv => whnf
       refine ⟨fun g => zF g, fun _ => ?_⟩
       conv => whnf
       exact ⟨⟨[], hY0⟩, [0, 1], ⟨rfl, ⟨rfl, rfl, rfl, rfl, trivial⟩, rfl⟩, rfl, rfl, rfl, trivial⟩
     · have h3 : (p0 :: pr).length = pr.length + 1 := rfl
       omega
   · subst hyy
     cases Y with
     | nil =>
       conv => whnf
       exact Or.inr ⟨[], .t [.c (.val (.slice none 0 0)), .c (.val (.slice none 0 0)), .c (.val (.bool wh))], [], ⟨rfl, trivial, rfl⟩, rfl, rfl, rfl⟩
     | cons y0 yr =>
       conv => whnf
       exact Or.inr ⟨[2, 3, 4], .t [.c (bhV 0 (y0 :: yr)), .c (bhV 1 (y0 :: yr)), .c (.val (.bool wh))], bhO 2 (y0 :: yr), ⟨rfl, ⟨rfl, rfl, rfl, rfl, rfl, rfl, trivial⟩, rfl⟩, rfl, rfl, rfl⟩
end Go.Proofs.YtokkphocaloelaaGreatDoor

end
section
namespace Go.Proofs.YtokkphocaloelaaGreatDoor
open Go Go.Vc
set_option maxRecDepth 100000
set_option maxHeartbeats 8000000

def encQ : Enc Nat := ⟨fun bs n => match bs with
 | [d, h] => [.vec d n, .ptr h 0]
 | _ => [.val (.slice none 0 0), .val (.pointer none)], fun σ bs bs' n hl hk => by
 match bs, bs', hl with
 | [], [], _ => rfl
 | [a], [a'], _ => rfl
 | [a, b], [a', b'], _ =>
   have h0 := hk 0 (by simp)
   have h1 := hk 1 (by simp)
   simp only [List.getD_cons_zero, List.getD_cons_succ] at h0 h1
   simp only [List.map_cons, CV.ren, h0, h1, List.map_nil]
 | a :: b :: c :: r, a' :: b' :: c' :: r', _ => rfl⟩
theorem encQ_len (bs : List Nat) (n : Nat) : (encQ.f bs n).length = 2 := by
 match bs with
 | [] => rfl
 | [a] => rfl
 | [a, b] => rfl
 | a :: b :: c :: r => rfl
def quB (d h n : Nat) : Blk := .vec true 127 encQ [d, h] 2 [n]
theorem and1_u8 {n : Nat} (hn : n < 256) (h : n % 2 = 0) : (IntKind.u8.wrap (((BitVec.ofInt IntKind.u8.bits ((n : Nat) : Int) &&& BitVec.ofInt IntKind.u8.bits ((1 : Nat) : Int)).toNat : Nat) : Int) != ((0 : Nat) : Int)) = false := by
 rw [nand8 hn (by omega), Nat.and_one_is_mod, h]
 rfl
theorem prepQueueW (w0 : World) (m : Bool) {h : List Int} (hb : Byt h) (hf : bt h 5 % 2 = 0) : CallsA Tryz.prog w0 95 [.c (.ptr 0 0), .c (.ptr 8 0)] [rdB 1 3 4 5 m, .dead, .dead, .dead, psB 6 7 .none none false 0 false, .dead, .dead, .dead, hpB h] fun r H =>
   r = .o (.c (.val .nilIface)) ∧ H = [rdB 1 3 4 5 m, .dead, .dead, .dead, psB 6 7 .none none false 0 false, .dead, .dead, .dead, hpB h] := by
 refine callsA_of_ev c95_ ?_
 conv => whnf
 refine CallsA.liftK (H0 := [rdB 1 3 4 5 m, .dead, .dead, .dead, .dead, .dead]) [0, 1, 2, 3, 4, 5] [rdB 1 3 4 5 m, .dead, .dead, .dead, .dead, .dead, .dead, .dead, hpB h] ⟨rfl, rfl, trivial⟩ rfl ⟨rdE (by rfl) (by rfl) (by rfl) (by rfl) m, rfl, l1 _, l2 _, l3 _, l4 _, l5 _, trivial⟩ rfl (getStateW w0 m) ?_
 rintro _ _ ⟨rfl, rfl⟩
 have hb5 := bt_lt hb 5
 conv => whnf
 rw [and1_u8 hb5 hf]
 refine ⟨fun _ => ?_, fun g => zT g⟩
 conv => whnf
 refine Or.inl ?_
 conv => whnf
 refine ⟨fun g => zF g, fun _ => ?_⟩
 conv => whnf
 refine Or.inl ?_
 conv => whnf
 refine ⟨fun g => zF g, fun _ => ?_⟩
 conv => whnf
 refine Or.inl ?_
 conv => whnf
 refine ⟨fun g => zF g, fun _ => ?_⟩
 conv => whnf
 exact Or.inr ⟨[0, 1, 2, 3, 4, 5, 6, 7, 8], .o (.c (.val .nilIface)), [rdB 1 3 4 5 m, .dead, .dead, .dead, psB 6 7 .none none false 0 false, .dead, .dead, .dead, hpB h], ⟨rfl, ⟨rdEE (by rfl) (by rfl) (by rfl) (by rfl) (by rfl) (by rfl) (by rfl) (by rfl) m, rfl, l1 _, l2 _, l3 _, rfl, rfl, l5 _, show 6 < 9 by decide, show 7 < 9 by decide, rfl, rfl, trivial⟩, rfl⟩, rfl, rfl, rfl⟩
theorem enqueueW (w0 : World) (m : Bool) {h X : List Int} (hX : X.length ≤ 1073741824) : CallsA Tryz.prog w0 97 [.c (.ptr 0 0), .c (.ptr 8 0), .c (.vec 9 X.length)] [rdB 1 3 4 5 m, .dead, .dead, .dead, psB 6 9 .none (some X.length) false 0 false, .dead, .dead, .dead, hpB h, rowB X] fun r H =>
   r = .t [] ∧ H = [rdB 1 3 4 5 m, .dead, .dead, .dead, psB 12 9 (.vec 1) (some X.length) false 0 false, .dead, .dead, .dead, hpB h, rowB X, rowB X, hpB h, quB 10 11 X.length] := by
 refine callsA_of_ev c97_ ?_
 conv => whnf
 refine CallsA.liftK (H0 := [rdB 1 3 4 5 m, .dead, .dead, .dead, .dead, .dead]) [0, 1, 2, 3, 4, 5] [rdB 1 3 4 5 m, .dead, .dead, .dead, .dead, .dead, .dead, .dead, hpB h, rowB X, hpB h] ⟨rfl, rfl, rfl, rfl, trivial⟩ rfl ⟨rdE (by rfl) (by rfl) (by rfl) (by rfl) m, rfl, l1 _, l2 _, l3 _, l4 _, l5 _, trivial⟩ rfl (getStateW w0 m) ?_
 rintro _ _ ⟨rfl, rfl⟩
 refine ⟨trivial, ?_⟩
 conv => whnf
 refine CallsA.liftK (H0 := [rdB 1 3 4 5 m, .dead, .dead, .dead, .dead, .dead]) [0, 1, 2, 3, 4, 5] [rdB 1 3 4 5 m, .dead, .dead, .dead, .dead, .dead, .dead, .dead, hpB h, rowB X, hpB h] ⟨(rdB_ren (by rfl) (by rfl) (by rfl) (by rfl) m).symm, rfl, rfl, rfl, trivial⟩ rfl ⟨rdE (by rfl) (by rfl) (by rfl) (by rfl) m, rfl, l1 _, l2 _, l3 _, l4 _, l5 _, trivial⟩ rfl (getStateW w0 m) ?_
 rintro _ _ ⟨rfl, rfl⟩
 refine ⟨trivial, ?_⟩
 conv => whnf
 refine ⟨by decide, Int, encI .u8, [], X, fun _ => rfl, ⟨rfl, Nat.le_refl _, rfl, by rw [List.take_of_length_le (Nat.le_refl _)]⟩, by omega, by omega, ?_⟩
 conv => whnf
 refine ⟨⟨⟨rfl, rfl⟩, trivial⟩, ?_⟩
 conv => whnf
 refine ⟨⟨⟨rfl, rfl⟩, trivial⟩, ?_⟩
 conv => whnf
 refine ⟨_, Ghost.refl w0 _, ?_⟩
 conv => whnf
 refine ⟨by decide, Nat, encQ, [11, 10], [X.length], encQ_len _, ⟨rfl, rfl, rfl⟩, by simp only [List.length_cons, List.length_nil]; omega, by simp only [List.length_cons, List.length_nil]; omega, ?_⟩
 conv => whnf
 refine ⟨trivial, ?_⟩
 conv => whnf
 refine ⟨trivial, ?_⟩
 conv => whnf
 exact Or.inr ⟨[0, 1, 2, 3, 4, 5, 6, 7, 8, 9, 11, 10, 13], .t [], [rdB 1 3 4 5 m, .dead, .dead, .dead, psB 12 9 (.vec 1) (some X.length) false 0 false, .dead, .dead, .dead, hpB h, rowB X, rowB X, hpB h, quB 10 11 X.length], ⟨rfl, ⟨rdEE (by rfl) (by rfl) (by rfl) (by rfl) (by rfl) (by rfl) (by rfl) (by rfl) m, rfl, l1 _, l2 _, l3 _, rfl, rfl, l5 _, show 6 < 14 by decide, show 7 < 14 by decide, rfl, rfl, rfl, rfl, rfl, rfl, rfl, rfl, rfl, rfl, trivial⟩, rfl⟩, rfl, rfl, rfl⟩
theorem l6 (n : Nat) : 6 < n + 7 := by omega
theorem l7 (n : Nat) : 7 < n + 8 := by omega
theorem l9 (n : Nat) : 9 < n + 10 := by omega
theorem l10 (n : Nat) : 10 < n + 11 := by omega
theorem l11 (n : Nat) : 11 < n + 12 := by omega
structure OneP (segs : List (List Int)) (k : Nat) : Prop where
 len : segs.length = k + 1
 k8 : k < 256
 at' : ∀ i x, segs[i]? = some x → x.length ≤ 255 ∧ (x.length = 255 ↔ i < k)
def qpI (k : Nat) := {i : Nat // i ≤ k} ⊕ Unit
def qpSt (m : Bool) (h : List Int) (segs : List (List Int)) (k : Nat) : qpI k → S
 | .inl ⟨0, _⟩ => ⟨[(0, .o (.c (.ptr 0 0))), (1, .o (.c (.vec 10 (k + 1)))), (2, .o (.c (.vec 9 (k + 1)))), (3, .o (.c (.ptr 8 0))), (9, .o (.c (.ptr 4 0))), (22, .o (.c (.vec 10 (k + 1)))), (23, .o (.c (.val (.int .i64 ((k + 1 : Nat) : Int))))), (24, .o (.c (.val (.int .i64 ((0 : Nat) : Int)))))], [rdB 1 3 4 5 m, .dead, .dead, .dead, psB 6 7 .none none false 0 false, .dead, .dead, .dead, hpB h, rowB (lenI segs), outB 11 segs, segB segs]⟩
 | .inl ⟨i + 1, _⟩ => ⟨[(0, .o (.c (.ptr 0 0))), (1, .o (.c (.vec 10 (k + 1)))), (2, .o (.c (.vec 9 (k + 1)))), (3, .o (.c (.ptr 8 0))), (9, .o (.c (.ptr 4 0))), (22, .o (.c (.vec 10 (k + 1)))), (23, .o (.c (.val (.int .i64 ((k + 1 : Nat) : Int))))), (24, .o (.c (.val (.int .i64 ((i + 1 : Nat) : Int)))))], [rdB 1 3 4 5 m, .dead, .dead, .dead, psB 6 12 .none (some (segs.take (i + 1)).flatten.length) false 0 false, .dead, .dead, .dead, hpB h, rowB (lenI segs), outB 11 segs, segB segs, rowB (segs.take (i + 1)).flatten]⟩
 | .inr _ => ⟨[(0, .o (.c (.ptr 0 0))), (3, .o (.c (.ptr 8 0))), (9, .o (.c (.ptr 4 0))), (23, .o (.c (.val (.int .i64 ((k + 1 : Nat) : Int))))), (24, .o (.c (.val (.int .i64 ((k + 1 : Nat) : Int)))))], [rdB 1 3 4 5 m, .dead, .dead, .dead, psB 12 7 (.vec 1) none false 0 false, .dead, .dead, .dead, hpB h, .dead, .dead, .dead, quB 13 14 segs.flatten.length, rowB segs.flatten, hpB h]⟩
def qpM (k : Nat) : qpI k → Nat
 | .inl i => k + 1 - i.1
 | .inr _ => 0
theorem queuePkW (w0 : World) (m : Bool) {h : List Int} {segs : List (List Int)} {k : Nat} (hb : Byt h) (hf : bt h 5 % 2 = 0) (ho : OneP segs k) : CallsA Tryz.prog w0 55 [.c (.ptr 0 0), .c (.vec 10 (k + 1)), .c (.vec 9 (k + 1)), .c (.ptr 8 0)] [rdB 1 3 4 5 m, .dead, .dead, .dead, psB 6 7 .none none false 0 false, .dead, .dead, .dead, hpB h, rowB (lenI segs), outB 11 segs, segB segs] fun r H =>
   r = .o (.c (.val .nilIface)) ∧ H = [rdB 1 3 4 5 m, .dead, .dead, .dead, psB 12 7 (.vec 1) none false (mkLi h 0) (mkHl h false), .dead, .dead, .dead, hpB h, .dead, .dead, .dead, quB 13 14 segs.flatten.length, rowB segs.flatten, hpB h] := by
 have hk8 := ho.k8
 have hFl : segs.flatten.length ≤ 65536 := by
   have : ∀ (l : List (List Int)), (∀ x ∈ l, x.length ≤ 255) → l.flatten.length ≤ 255 * l.length := by
     intro l
     induction l with
     | nil => intro _; exact Nat.le_refl _
     | cons x r ih =>
       intro hx
       rw [List.flatten_cons, List.length_append, List.length_cons]
       have := hx x (List.mem_cons_self ..)
       have := ih fun y hy => hx y (List.mem_cons_of_mem _ hy)
       omega
   have h1 := this segs fun x hx => by
     obtain ⟨i, hi, rfl⟩ := List.mem_iff_getElem.1 hx
     exact (ho.at' i _ (List.getElem?_eq_getElem hi)).1
   rw [ho.len] at h1
   omega
 refine callsA_of_ev c55_ ?_
 conv => whnf
 refine CallsA.liftK (H0 := [rdB 1 3 4 5 m, .dead, .dead, .dead, .dead, .dead]) [0, 1, 2, 3, 4, 5] [rdB 1 3 4 5 m, .dead, .dead, .dead, .dead, .dead, .dead, .dead, hpB h, rowB (lenI segs), outB 11 segs, segB segs] ⟨rfl, rfl, rfl, rfl, rfl, trivial⟩ rfl ⟨rdE (by rfl) (by rfl) (by rfl) (by rfl) m, rfl, l1 _, l2 _, l3 _, l4 _, l5 _, trivial⟩ rfl (getStateW w0 m) ?_
 rintro _ _ ⟨rfl, rfl⟩
 conv => whnf
 refine Or.inr ⟨Unit, fun _ => ⟨[(0, .o (.c (.ptr 0 0))), (1, .o (.c (.vec 10 (k + 1)))), (2, .o (.c (.vec 9 (k + 1)))), (3, .o (.c (.ptr 8 0))), (9, .o (.c (.ptr 4 0)))], [rdB 1 3 4 5 m, .dead, .dead, .dead, psB 6 7 .none none false 0 false, .dead, .dead, .dead, hpB h, rowB (lenI segs), outB 11 segs, segB segs]⟩, ?_, fun _ => ?_⟩
 · conv => whnf
   refine CallsA.lift (H0 := [rdB 1 3 4 5 m, .dead, .dead, .dead, psB 6 7 .none none false 0 false, .dead, .dead, .dead, hpB h]) [0, 1, 2, 3, 4, 5, 6, 7, 8] rfl ⟨rdEE (by rfl) (by rfl) (by rfl) (by rfl) (by rfl) (by rfl) (by rfl) (by rfl) m, rfl, l1 _, l2 _, l3 _, rfl, rfl, l5 _, l6 _, l7 _, rfl, rfl, trivial⟩ rfl (prepQueueW w0 m hb hf) ?_
   rintro _ _ ⟨rfl, rfl⟩
   conv => whnf
   refine ⟨fun g => zF g, fun _ => ?_⟩
   conv => whnf
   exact ⟨(), [0, 1, 2, 3, 4, 5, 6, 7, 8, 9, 10, 11], ⟨rfl, ⟨rdEE (by rfl) (by rfl) (by rfl) (by rfl) (by rfl) (by rfl) (by rfl) (by rfl) m, rfl, l1 _, l2 _, l3 _, rfl, rfl, l5 _, l6 _, l7 _, rfl, rfl, rfl, rfl, rfl, rfl, rfl, rfl, trivial⟩, rfl⟩, rfl, rfl, rfl, rfl, rfl, trivial⟩
 conv => whnf
 refine Or.inr ⟨Unit, fun _ => ⟨[(0, .o (.c (.ptr 0 0))), (3, .o (.c (.ptr 8 0))), (9, .o (.c (.ptr 4 0)))], [rdB 1 3 4 5 m, .dead, .dead, .dead, psB 12 7 (.vec 1) none false 0 false, .dead, .dead, .dead, hpB h, .dead, .dead, .dead, quB 13 14 segs.flatten.length, rowB segs.flatten, hpB h]⟩, ?_, fun _ => ?_⟩
 · conv => whnf
   refine ⟨qpI k, qpSt m h segs k, qpM k, ⟨.inl ⟨0, Nat.zero_le _⟩, [0, 1, 2, 3, 4, 5, 6, 7, 8, 9, 10, 11], ⟨rfl, ⟨rdE (by rfl) (by rfl) (by rfl) (by rfl) m, rfl, l1 _, l2 _, l3 _, rfl, rfl, l5 _, l6 _, l7 _, rfl, rfl, rfl, rfl, rfl, rfl, rfl, rfl, trivial⟩, rfl⟩, rfl, rfl, rfl, rfl, rfl, rfl, ?_, rfl, trivial⟩, fun j => ?_⟩
   · show some (AV.o (.c (.val (.int .i64 _)))) = some (AV.o (.c (.val (.int .i64 ((k + 1 : Nat) : Int)))))
     rfl
   match j with
   | .inr _ =>
     conv => whnf
     refine ⟨fun g => absurd (lt_t g) (Nat.lt_irrefl _), fun _ => ?_⟩
     conv => whnf
     exact ⟨(), [0, 1, 2, 3, 4, 5, 6, 7, 8, 9, 10, 11, 12, 13, 14], ⟨rfl, ⟨rdE (by rfl) (by rfl) (by rfl) (by rfl) m, rfl, l1 _, l2 _, l3 _, rfl, rfl, l5 _, l6 _, l7 _, rfl, rfl, l9 _, l10 _, l11 _, rfl, rfl, rfl, rfl, rfl, rfl, trivial⟩, rfl⟩, rfl, rfl, rfl, trivial⟩
   | .inl ⟨0, hi⟩ =>
     obtain ⟨x, hx⟩ : ∃ x, segs[0]? = some x := ⟨_, List.getElem?_eq_getElem (by rw [ho.len]; omega)⟩
     have hat := ho.at' 0 x hx
     have hxl := hat.1
     have hsz : (lenI segs)[0]? = some ((x.length : Nat) : Int) := by unfold lenI; rw [List.getElem?_map, hx]; rfl
     have hrow : (turns (segs.map List.length))[0]? = some (0, x.length) := by rw [turns_get, List.getElem?_map, hx]; rfl
     have htk : (segs.take (0 + 1)).flatten = ([] : List Int) ++ x := by
       rw [List.take_add_one, hx, List.flatten_append]
       simp
     have hfz : (([] : List Int) ++ x).length ≤ 65536 := by
       rw [← htk]
       have e1 : segs.flatten = (segs.take (0 + 1)).flatten ++ (segs.drop (0 + 1)).flatten := by rw [← List.flatten_append, List.take_append_drop]
       have e2 := congrArg List.length e1
       rw [List.length_append] at e2
       omega
     rw [List.length_append] at hfz
     conv => whnf
     refine ⟨fun _ => ?_, fun g => absurd (lt_f (a := 0) (b := k + 1) g) (by omega)⟩
     conv => whnf
     refine Or.inl ?_
     conv => whnf
     refine ⟨⟨by omega, by omega⟩, ?_⟩
     conv => whnf
     refine ⟨(0, x.length), hrow, ?_⟩
     conv => whnf
     refine ⟨⟨by omega, by omega⟩, ?_⟩
     conv => whnf
     refine ⟨((x.length : Nat) : Int), hsz, ?_⟩
     conv => whnf
     refine Or.inl ?_
     conv => whnf
     refine ⟨fun g => zF g, fun _ => ?_⟩
     conv => whnf
     refine ⟨by decide, Int, encI .u8, [], x, fun _ => rfl, ⟨rfl, x, hx, Nat.le_refl _, rfl, by rw [List.take_of_length_le (Nat.le_refl _)]⟩, by omega, by omega, ?_⟩
     conv => whnf
     refine Or.inl ?_
     conv => whnf
     refine ⟨fun g => ?_, fun g => ?_⟩
     · have g : x.length = 255 := beq_t (b := 255) g
       have hik := hat.2.1 g
       conv => whnf
       refine ⟨.inl ⟨0 + 1, by omega⟩, ⟨[0, 1, 2, 3, 4, 5, 6, 7, 8, 9, 10, 11, 12], ⟨rfl, ⟨rdE (by rfl) (by rfl) (by rfl) (by rfl) m, rfl, l1 _, l2 _, l3 _, ?_, rfl, l5 _, l6 _, l7 _, rfl, rfl, rfl, rfl, rfl, rfl, rfl, rfl, ?_, rfl, trivial⟩, rfl⟩, rfl, rfl, rfl, rfl, rfl, rfl, rfl, ?_, trivial⟩, ?_⟩
       · show some (psB 6 12 .none (some x.length) false 0 false) = some (psB 6 12 .none (some (segs.take (0 + 1)).flatten.length) false 0 false)
         rw [htk]
         rfl
       · show some (rowB x) = some (rowB (segs.take (0 + 1)).flatten)
         rw [htk]
         rfl
       · refine eq_i64 ?_
         rw [IntKind.wrap_i64]
         omega
       · show k + 1 - (0 + 1) < k + 1 - 0
         omega
     · have g : x.length ≠ 255 := beq_f (b := 255) g
       have hik : 0 = k := by
         have h1 : ¬ 0 < k := fun c => g (hat.2.2 c)
         omega
       have hall : segs.flatten = x := by
         have : segs.take (0 + 1) = segs := List.take_of_length_le (by rw [ho.len]; omega)
         rw [this] at htk
         rw [htk]
         rfl
       conv => whnf
       refine CallsA.lift (H0 := [rdB 1 3 4 5 m, .dead, .dead, .dead, psB 6 9 .none (some x.length) false 0 false, .dead, .dead, .dead, hpB h, rowB x]) [0, 1, 2, 3, 4, 5, 6, 7, 8, 12] rfl ⟨rdE (by rfl) (by rfl) (by rfl) (by rfl) m, rfl, l1 _, l2 _, l3 _, rfl, rfl, l5 _, l6 _, l7 _, rfl, rfl, rfl, rfl, trivial⟩ rfl (enqueueW w0 m (h := h) (X := x) (by omega)) ?_
       rintro _ _ ⟨rfl, rfl⟩
       conv => whnf
       refine ⟨.inr (), ⟨[0, 1, 2, 3, 4, 5, 6, 7, 8, 9, 10, 11, 15, 13, 14], ⟨rfl, ⟨rdEE (by rfl) (by rfl) (by rfl) (by rfl) (by rfl) (by rfl) (by rfl) (by rfl) m, rfl, l1 _, l2 _, l3 _, rfl, rfl, l5 _, l6 _, l7 _, rfl, rfl, l9 _, l10 _, l11 _, ?_, rfl, ?_, rfl, rfl, rfl, trivial⟩, rfl⟩, rfl, rfl, rfl, rfl, ?_, trivial⟩, ?_⟩
       · show some (quB 13 14 x.length) = some (quB 13 14 segs.flatten.length)
         rw [hall]
       · show some (rowB x) = some (rowB segs.flatten)
         rw [hall]
       · refine eq_i64 ?_
         rw [IntKind.wrap_i64]
         omega
       · show 0 < k + 1 - 0
         omega
   | .inl ⟨i + 1, hi⟩ =>
     obtain ⟨x, hx⟩ : ∃ x, segs[(i + 1)]? = some x := ⟨_, List.getElem?_eq_getElem (by rw [ho.len]; omega)⟩
     have hat := ho.at' (i + 1) x hx
     have hxl := hat.1
     have hsz : (lenI segs)[(i + 1)]? = some ((x.length : Nat) : Int) := by unfold lenI; rw [List.getElem?_map, hx]; rfl
     have hrow : (turns (segs.map List.length))[(i + 1)]? = some ((i + 1), x.length) := by rw [turns_get, List.getElem?_map, hx]; rfl
     have htk : (segs.take ((i + 1) + 1)).flatten = (segs.take (i + 1)).flatten ++ x := by
       rw [List.take_add_one, hx, List.flatten_append]
       simp
     have hfz : ((segs.take (i + 1)).flatten ++ x).length ≤ 65536 := by
       rw [← htk]
       have e1 : segs.flatten = (segs.take ((i + 1) + 1)).flatten ++ (segs.drop ((i + 1) + 1)).flatten := by rw [← List.flatten_append, List.take_append_drop]
       have e2 := congrArg List.length e1
       rw [List.length_append] at e2
       omega
     rw [List.length_append] at hfz
     conv => whnf
     refine ⟨fun _ => ?_, fun g => absurd (lt_f (a := (i + 1)) (b := k + 1) g) (by omega)⟩
     conv => whnf
     refine Or.inl ?_
     conv => whnf
     refine ⟨⟨by omega, by omega⟩, ?_⟩
     conv => whnf
     refine ⟨((i + 1), x.length), hrow, ?_⟩
     conv => whnf
     refine ⟨⟨by omega, by omega⟩, ?_⟩
     conv => whnf
     refine ⟨((x.length : Nat) : Int), hsz, ?_⟩
     conv => whnf
     refine Or.inl ?_
     conv => whnf
     refine ⟨fun g => zF g, fun _ => ?_⟩
     conv => whnf
     refine ⟨rfl, x, ⟨rfl, x, hx, Nat.le_refl _, rfl, by rw [List.take_of_length_le (Nat.le_refl _)]⟩, by rw [List.length_append]; omega, by rw [List.length_append]; omega, ?_⟩
     conv => whnf
     refine Or.inl ?_
     conv => whnf
     refine ⟨fun g => ?_, fun g => ?_⟩
     · have g : x.length = 255 := beq_t (b := 255) g
       have hik := hat.2.1 g
       conv => whnf
       refine ⟨.inl ⟨(i + 1) + 1, by omega⟩, ⟨[0, 1, 2, 3, 4, 5, 6, 7, 8, 9, 10, 11, 13], ⟨rfl, ⟨rdE (by rfl) (by rfl) (by rfl) (by rfl) m, rfl, l1 _, l2 _, l3 _, ?_, rfl, l5 _, l6 _, l7 _, rfl, rfl, rfl, rfl, rfl, rfl, rfl, rfl, ?_, rfl, trivial⟩, rfl⟩, rfl, rfl, rfl, rfl, rfl, rfl, rfl, ?_, trivial⟩, ?_⟩
       · show some (psB 6 13 .none (some ((segs.take (i + 1)).flatten ++ x).length) false 0 false) = some (psB 6 13 .none (some (segs.take ((i + 1) + 1)).flatten.length) false 0 false)
         rw [htk]
       · show some (rowB ((segs.take (i + 1)).flatten ++ x)) = some (rowB (segs.take ((i + 1) + 1)).flatten)
         rw [htk]
       · refine eq_i64 ?_
         rw [IntKind.wrap_i64]
         omega
       · show k + 1 - ((i + 1) + 1) < k + 1 - (i + 1)
         omega
     · have g : x.length ≠ 255 := beq_f (b := 255) g
       have hik : (i + 1) = k := by
         have h1 : ¬ (i + 1) < k := fun c => g (hat.2.2 c)
         omega
       have hall : segs.flatten = ((segs.take (i + 1)).flatten ++ x) := by
         have : segs.take ((i + 1) + 1) = segs := List.take_of_length_le (by rw [ho.len]; omega)
         rw [this] at htk
         rw [htk]
       conv => whnf
       refine CallsA.lift (H0 := [rdB 1 3 4 5 m, .dead, .dead, .dead, psB 6 9 .none (some ((segs.take (i + 1)).flatten ++ x).length) false 0 false, .dead, .dead, .dead, hpB h, rowB ((segs.take (i + 1)).flatten ++ x)]) [0, 1, 2, 3, 4, 5, 6, 7, 8, 13] rfl ⟨rdE (by rfl) (by rfl) (by rfl) (by rfl) m, rfl, l1 _, l2 _, l3 _, rfl, rfl, l5 _, l6 _, l7 _, rfl, rfl, rfl, rfl, trivial⟩ rfl (enqueueW w0 m (h := h) (X := ((segs.take (i + 1)).flatten ++ x)) (by rw [List.length_append]; omega)) ?_
       rintro _ _ ⟨rfl, rfl⟩
       conv => whnf
       refine ⟨.inr (), ⟨[0, 1, 2, 3, 4, 5, 6, 7, 8, 9, 10, 11, 16, 14, 15], ⟨rfl, ⟨rdEE (by rfl) (by rfl) (by rfl) (by rfl) (by rfl) (by rfl) (by rfl) (by rfl) m, rfl, l1 _, l2 _, l3 _, rfl, rfl, l5 _, l6 _, l7 _, rfl, rfl, l9 _, l10 _, l11 _, ?_, rfl, ?_, rfl, rfl, rfl, trivial⟩, rfl⟩, rfl, rfl, rfl, rfl, ?_, trivial⟩, ?_⟩
       · show some (quB 14 15 ((segs.take (i + 1)).flatten ++ x).length) = some (quB 14 15 segs.flatten.length)
         rw [hall]
       · show some (rowB ((segs.take (i + 1)).flatten ++ x)) = some (rowB segs.flatten)
         rw [hall]
       · refine eq_i64 ?_
         rw [IntKind.wrap_i64]
         omega
       · show 0 < k + 1 - (i + 1)
         omega
 conv => whnf
 refine CallsA.liftK (H0 := [rdB 1 3 4 5 m, .dead, .dead, .dead, psB 7 8 (.vec 1) none false 0 false, .dead, hpB h, .dead, .dead]) [0, 1, 2, 3, 4, 5, 8, 12, 7] [rdB 1 3 4 5 m, .dead, .dead, .dead, psB 12 7 (.vec 1) none false 0 false, .dead, .dead, .dead, hpB h, .dead, .dead, .dead, .dead, rowB segs.flatten, hpB h] ⟨rfl, rfl, rfl, rfl, rfl, trivial⟩ rfl ⟨rdE (by rfl) (by rfl) (by rfl) (by rfl) m, rfl, l1 _, l2 _, l3 _, rfl, rfl, l5 _, rfl, rfl, show 12 < 15 by decide, l7 _, trivial⟩ rfl (markReadW w0 m (.vec 1) none false 0 false) ?_
 rintro _ _ ⟨rfl, rfl⟩
 conv => whnf
 exact Or.inr ⟨[0, 1, 2, 3, 4, 5, 6, 7, 8, 9, 10, 11, 12, 13, 14], .o (.c (.val .nilIface)), [rdB 1 3 4 5 m, .dead, .dead, .dead, psB 12 7 (.vec 1) none false (mkLi h 0) (mkHl h false), .dead, .dead, .dead, hpB h, .dead, .dead, .dead, quB 13 14 segs.flatten.length, rowB segs.flatten, hpB h], ⟨rfl, ⟨rdEE (by rfl) (by rfl) (by rfl) (by rfl) (by rfl) (by rfl) (by rfl) (by rfl) m, rfl, l1 _, l2 _, l3 _, rfl, rfl, l5 _, l6 _, l7 _, rfl, rfl, l9 _, l10 _, l11 _, rfl, rfl, rfl, rfl, rfl, rfl, trivial⟩, rfl⟩, rfl, rfl, rfl⟩
end Go.Proofs.YtokkphocaloelaaGreatDoor

end
section
namespace Go.Proofs.YtokkphocaloelaaGreatDoor
open Go Go.Vc
set_option maxRecDepth 100000
set_option maxHeartbeats 8000000

theorem nwrap16 {n : Nat} (h : n < 65536) : IntKind.u16.wrap (n : Int) = n := by rw [IntKind.wrap_u16]; omega
theorem nor16 {a b : Nat} (ha : a < 65536) (hb : b < 65536) : IntKind.u16.wrap (((BitVec.ofInt IntKind.u16.bits (a : Int) ||| BitVec.ofInt IntKind.u16.bits (b : Int)).toNat : Nat) : Int) = ((a ||| b : Nat) : Int) := by
 have e : (BitVec.ofInt IntKind.u16.bits (a : Int) ||| BitVec.ofInt IntKind.u16.bits (b : Int)).toNat = a ||| b := by
   show (BitVec.ofInt 16 (a : Int) ||| BitVec.ofInt 16 (b : Int)).toNat = _
   rw [BitVec.toNat_or, BitVec.toNat_ofInt, BitVec.toNat_ofInt]
   congr 1 <;> omega
 rw [e]
 exact nwrap16 (Nat.or_lt_two_pow (n := 16) ha hb)
theorem orS16 {x y s : Nat} (hx : x < 2 ^ s) (hy : y < 256) (hs : s ≤ 8) : IntKind.u16.wrap (((BitVec.ofInt IntKind.u16.bits (x : Int) ||| BitVec.ofInt IntKind.u16.bits (IntKind.u16.wrap (IntKind.u16.wrap (y : Int) * (2 : Int) ^ min s IntKind.u16.bits))).toNat : Nat) : Int) = ((x + y * 2 ^ s : Nat) : Int) := by
 have h56 : 2 ^ s ≤ 2 ^ 8 := Nat.pow_le_pow_right (by omega) hs
 have hm : y * 2 ^ s ≤ 255 * 2 ^ 8 := Nat.mul_le_mul (by omega) h56
 rw [nwrap16 (n := y) (by omega), nshlk .u16 y s (by show s ≤ 16; omega), nwrap16 (n := y * 2 ^ s) (by omega), nor16 (by omega) (by omega), lorS hx]
theorem take_n2 {l : List Int} {o : Nat} {a0 a1 : Int} (h0 : l[o]? = some a0) (h1 : l[o + 1]? = some a1) : (l.drop o).take 2 = [a0, a1] := by
 apply List.ext_getElem?
 intro i
 rw [List.getElem?_take, List.getElem?_drop]
 match i with
 | 0 => exact h0
 | 1 => exact h1
 | i + 2 => rw [if_neg (by omega)]; rfl
theorem av16 {x y : Int} (h : x = y) : AV.o (A1.c (CV.val (.int .u16 x))) = AV.o (A1.c (CV.val (.int .u16 y))) := by rw [h]
theorem le16W (w0 : World) {l : List Int} (hl : Byt l) {o c : Nat} (h : o + 2 ≤ l.length) : CallsA Tryz.prog w0 141 [.a [], .c (.sli 0 1 o 2 c)] [rowB l] fun r H => r = .o (.c (.val (.int .u16 ((le ((l.drop o).take 2) : Nat) : Int)))) ∧ H = [rowB l] := by
 obtain ⟨a0, h0, l0⟩ := byt_at hl (i := o) (by omega)
 obtain ⟨a1, h1, l1⟩ := byt_at hl (i := o + 1) (by omega)
 rw [take_n2 h0 h1]
 refine callsA_of_ev c141_ ?_
 conv => whnf
 refine ⟨⟨by decide, by decide⟩, ?_⟩
 conv => whnf
 refine ⟨_, h1, ?_⟩
 conv => whnf
 refine ⟨⟨by decide, by decide⟩, ?_⟩
 conv => whnf
 refine ⟨_, h0, ?_⟩
 conv => whnf
 refine ⟨⟨by decide, by decide⟩, ?_⟩
 conv => whnf
 refine ⟨_, h1, ?_⟩
 conv => whnf
 refine Or.inr ⟨[0], .o (.c (.val (.int .u16 ((le [(a0 : Int), (a1 : Int)] : Nat) : Int)))), [rowB l], ⟨rfl, ⟨rfl, rfl, trivial⟩, rfl⟩, ?_, rfl, rfl⟩
 refine av16 ?_
 rw [nwrap16 (n := a0) (by omega), orS16 (x := a0) (y := a1) (s := 8) (by omega) l1 (by omega)]
 simp only [le, Int.toNat_natCast]
 omega
def ohB (X : List Int) : Blk := .cells 105 [u8 X 18, u8 X 9, .val (.int .u16 ((le ((X.drop 16).take 2) : Nat) : Int)), .val (.int .u16 ((le ((X.drop 10).take 2) : Nat) : Int)), .val (.int .u32 ((le ((X.drop 12).take 4) : Nat) : Int)), u8 X 8]
def headErr (k : Nat) : Prop := k = 8 ∨ k = 9 ∨ k = 10 ∨ k = 11
theorem headErr.lt {k : Nat} (h : headErr k) : k < 12 ∧ k ≠ 3 ∧ k ≠ 6 ∧ k ≠ 0 := by unfold headErr at h; omega
theorem parseIDW {w0 : World} {t : TypeId} {v : Nat → Value} (he : Errs w0 t v) {h X : List Int} (hh : Byt h) (hl : h.length = 27) (hX : Byt X) (hsig : h.take 4 = [79, 103, 103, 83]) (hfl : bt h 5 = 2) :
   CallsA Tryz.prog w0 132 [.c (.ptr 0 0), .c (.vec 1 X.length)] [hpB h, rowB X] fun r H =>
     ((19 ≤ X.length ∧ X.take 8 = opusHead) ∧ r = .t [.c (.ptr 2 0), .c (.val .nilIface)] ∧ H = [hpB h, rowB X, ohB X]) ∨
     (¬ (19 ≤ X.length ∧ X.take 8 = opusHead) ∧ ∃ k, headErr k ∧ r = .t [.c (.val (.pointer none)), .c (.val (.iface t (v k)))] ∧ H = [.dead, .dead]) := by
 have hs0 : ((bt h 0 : Nat) : Int) = 79 ∧ ((bt h 1 : Nat) : Int) = 103 ∧ ((bt h 2 : Nat) : Int) = 103 ∧ ((bt h 3 : Nat) : Int) = 83 := by
   have e : ∀ i, i < 4 → ([79, 103, 103, 83] : List Int)[i]? = some ((bt h i : Nat) : Int) := fun i hi => by rw [← hsig, List.getElem?_take, if_pos hi, bt_at hh (by omega)]
   exact ⟨(Option.some.inj (e 0 (by decide))).symm, (Option.some.inj (e 1 (by decide))).symm, (Option.some.inj (e 2 (by decide))).symm, (Option.some.inj (e 3 (by decide))).symm⟩
 have hstr : strOf [((bt h 0 : Nat) : Int), ((bt h 1 : Nat) : Int), ((bt h 2 : Nat) : Int), ((bt h 3 : Nat) : Int)] = ByteArray.mk #[79, 103, 103, 83] := by
   rw [hs0.1, hs0.2.1, hs0.2.2.1, hs0.2.2.2]
   rfl
 refine callsA_of_ev c132_ ?_
 conv => whnf
 refine Or.inl ?_
 conv => whnf
 refine ⟨⟨⟨by decide, by decide⟩, by decide⟩, ?_⟩
 conv => whnf
 refine ⟨trivial, [((bt h 0 : Nat) : Int), ((bt h 1 : Nat) : Int), ((bt h 2 : Nat) : Int), ((bt h 3 : Nat) : Int)], ⟨rfl, rfl, rfl⟩, ?_⟩
 rw [hstr]
 conv => whnf
 rw [neq_self]
 refine ⟨fun g => zF g, fun _ => ?_⟩
 conv => whnf
 refine Or.inl ?_
 conv => whnf
 rw [hfl, neq_nat]
 refine ⟨fun g => zF g, fun _ => ?_⟩
 conv => whnf
 refine Or.inl ?_
 conv => whnf
 refine ⟨fun g1 => ?_, fun g1 => ?_⟩
 · have g1 : X.length < 19 := lt_t g1
   conv => whnf
   refine ⟨.iface t (v 10), ?_⟩
   conv => whnf
   refine ⟨he.get 10 (by decide) (by decide) (by decide), ?_⟩
   conv => whnf
   refine ⟨rfl, ?_⟩
   conv => whnf
   exact Or.inr ⟨[0, 1], .t [.c (.val (.pointer none)), .c (.val (.iface t (v 10)))], [.dead, .dead], ⟨rfl, ⟨l0 _, l1 _, trivial⟩, rfl⟩, rfl, .inr ⟨(fun c => by omega), 10, (.inr (.inr (.inl rfl))), rfl, rfl⟩⟩
 have g1 : 19 ≤ X.length := lt_f g1
 conv => whnf
 refine Or.inl ?_
 conv => whnf
 refine ⟨⟨by decide, by decide, by omega⟩, .inl ⟨fun c _ _ => ?_, fun h => absurd h (by omega), fun h => absurd h (by omega)⟩⟩
 conv => whnf
 refine ⟨trivial, X.take 8, ⟨rfl, rfl, by show 0 + 8 ≤ X.length; omega, by rw [List.length_take]; show min 8 X.length = 8; omega, rfl⟩, ?_⟩
 conv => whnf
 refine ⟨fun g2 => ?_, fun g2 => ?_⟩
 · have g2 := strq_f g2
   have g3 : X.take 8 ≠ opusHead := fun c => g2 (by rw [c]; rfl)
   conv => whnf
   refine ⟨.iface t (v 11), ?_⟩
   conv => whnf
   refine ⟨he.get 11 (by decide) (by decide) (by decide), ?_⟩
   conv => whnf
   refine ⟨rfl, ?_⟩
   conv => whnf
   exact Or.inr ⟨[0, 1], .t [.c (.val (.pointer none)), .c (.val (.iface t (v 11)))], [.dead, .dead], ⟨rfl, ⟨l0 _, l1 _, trivial⟩, rfl⟩, rfl, .inr ⟨(fun c => g3 c.2), 11, (.inr (.inr (.inr rfl))), rfl, rfl⟩⟩
 have g2 := strq_t g2
 have hop : Byt opusHead := fun x hx => by
   simp only [opusHead, List.mem_cons, List.not_mem_nil, or_false] at hx
   omega
 have g3 : X.take 8 = opusHead := str_inj (hX.take 8) hop (g2.trans rfl)
 have h8 := bt_at hX (i := 8) (by omega)
 have h9 := bt_at hX (i := 9) (by omega)
 have h18 := bt_at hX (i := 18) (by omega)
 conv => whnf
 refine ⟨⟨by decide, by omega⟩, ?_⟩
 conv => whnf
 refine ⟨_, h8, ?_⟩
 conv => whnf
 refine ⟨⟨by decide, by omega⟩, ?_⟩
 conv => whnf
 refine ⟨_, h9, ?_⟩
 conv => whnf
 refine ⟨⟨by decide, by decide, by omega⟩, .inl ⟨fun c1 _ _ => ?_, fun h => absurd h (by omega), fun h => absurd h (by omega)⟩⟩
 conv => whnf
 refine ⟨⟨by decide, by decide, by omega⟩, .inl ⟨fun c2 _ _ => ?_, fun h => absurd h (by omega), fun h => absurd h (by omega)⟩⟩
 conv => whnf
 refine ⟨⟨by decide, by decide, by omega⟩, .inl ⟨fun c3 _ _ => ?_, fun h => absurd h (by omega), fun h => absurd h (by omega)⟩⟩
 conv => whnf
 refine ⟨⟨by decide, by omega⟩, ?_⟩
 conv => whnf
 refine ⟨_, h18, ?_⟩
 conv => whnf
 refine CallsA.lift (H0 := [rowB X]) [1] rfl ⟨rfl, rfl, trivial⟩ rfl (le16W w0 hX (o := 10) (c := c1 - 10) (by omega)) ?_
 rintro _ _ ⟨rfl, rfl⟩
 refine ⟨?_, ?_⟩
 · conv => whnf
   repeat' (first | exact trivial | exact ⟨rfl, rfl⟩ | exact ⟨_, h8, rfl, rfl⟩ | exact ⟨_, h9, rfl, rfl⟩ | exact ⟨_, h18, rfl, rfl⟩ | refine ⟨?_, ?_⟩)
 conv => whnf
 refine CallsA.lift (H0 := [rowB X]) [1] rfl ⟨rfl, rfl, trivial⟩ rfl (le32W w0 hX (o := 12) (c := c2 - 12) (by omega)) ?_
 rintro _ _ ⟨rfl, rfl⟩
 refine ⟨?_, ?_⟩
 · conv => whnf
   repeat' (first | exact trivial | exact ⟨rfl, rfl⟩ | exact ⟨_, h8, rfl, rfl⟩ | exact ⟨_, h9, rfl, rfl⟩ | exact ⟨_, h18, rfl, rfl⟩ | refine ⟨?_, ?_⟩)
 conv => whnf
 refine CallsA.lift (H0 := [rowB X]) [1] rfl ⟨rfl, rfl, trivial⟩ rfl (le16W w0 hX (o := 16) (c := c3 - 16) (by omega)) ?_
 rintro _ _ ⟨rfl, rfl⟩
 refine ⟨?_, ?_⟩
 · conv => whnf
   repeat' (first | exact trivial | exact ⟨rfl, rfl⟩ | exact ⟨_, h8, rfl, rfl⟩ | exact ⟨_, h9, rfl, rfl⟩ | exact ⟨_, h18, rfl, rfl⟩ | refine ⟨?_, ?_⟩)
 conv => whnf
 refine ⟨trivial, ?_⟩
 conv => whnf
 exact Or.inl (.inl ⟨⟨g1, g3⟩, rfl, rfl⟩)
end Go.Proofs.YtokkphocaloelaaGreatDoor

end
section
namespace Go.Proofs.YtokkphocaloelaaGreatDoor
open Go Go.Vc
set_option maxRecDepth 100000
set_option maxHeartbeats 8000000

def mpB (b : Nat) (X : List Int) : Blk := .cells 102 [u8 X 19, u8 X 20, .vec b (X.length - 21), .val (.slice none 0 0)]
def d8 : List Blk := [.dead, .dead, .dead, .dead, .dead, .dead, .dead, .dead]
theorem parseStreamW {w0 : World} {t : TypeId} {v : Nat → Value} (he : Errs w0 t v) {X : List Int} (hX : Byt X) (_hXl : X.length ≤ 65536) : CallsA Tryz.prog w0 142 [.c (.ptr 0 0), .c (.ptr 6 0), .c (.vec 7 X.length)] [rdB 1 3 4 5 false, .dead, .dead, .dead, .dead, .dead, ohB X, rowB X] fun r H =>
   (X.length = 21 + bt X 9 ∧ r = .o (.c (.val .nilIface)) ∧ H = [rdB 1 3 4 9 true, .dead, .dead, .dead, .dead, .dead, ohB X, rowB X, rowB (X.drop 21), mpB 8 X]) ∨
   (X.length ≠ 21 + bt X 9 ∧ r = .o (.c (.val (.iface t (v 10)))) ∧ H = d8) := by
 have hb9 := bt_lt hX 9
 refine callsA_of_ev c142_ ?_
 conv => whnf
 refine Or.inl ?_
 conv => whnf
 have hw : IntKind.i64.wrap (((21 : Nat) : Int) + IntKind.i64.wrap ((bt X 9 : Nat) : Int)) = ((21 + bt X 9 : Nat) : Int) := by rw [nwrapi (n := bt X 9) (by omega), nadd, nwrapi (by omega)]
 rw [hw]
 refine ⟨fun g => ?_, fun g => ?_⟩
 · have g := of_bne g
   conv => whnf
   refine ⟨.iface t (v 10), ?_⟩
   conv => whnf
   refine ⟨he.get 10 (by decide) (by decide) (by decide), ?_⟩
   conv => whnf
   refine ⟨rfl, ?_⟩
   conv => whnf
   exact Or.inr ⟨[0, 1, 2, 3, 4, 5, 6, 7], .o (.c (.val (.iface t (v 10)))), d8, ⟨rfl, ⟨l0 _, l1 _, l2 _, l3 _, l4 _, l5 _, l6 _, l7 _, trivial⟩, rfl⟩, rfl, .inr ⟨g, rfl, rfl⟩⟩
 have g := of_bne_f g
 have h19 := bt_at hX (i := 19) (by omega)
 have h20 := bt_at hX (i := 20) (by omega)
 conv => whnf
 refine ⟨⟨by decide, by omega⟩, ?_⟩
 conv => whnf
 refine ⟨_, h19, ?_⟩
 conv => whnf
 refine ⟨⟨by decide, by omega⟩, ?_⟩
 conv => whnf
 refine ⟨_, h20, ?_⟩
 conv => whnf
 refine ⟨⟨by decide, by omega, Int.le_refl _⟩, .inl ⟨fun c _ _ => ?_, fun hl => ?_, fun h h0 => by omega⟩⟩
 · conv => whnf
   refine ⟨by decide, Int, encI .u8, [], X.drop 21, fun _ => rfl, ⟨rfl, rfl, by show 21 + (X.length - 21) ≤ X.length; omega, by rw [List.length_drop]; rfl, by show _ = flat (encI .u8) [] ((X.drop 21).take (X.length - 21)); rw [List.take_of_length_le (by rw [List.length_drop]; omega)]⟩, by rw [List.length_drop]; omega, by rw [List.length_drop]; omega, ?_⟩
   conv => whnf
   refine ⟨?_, ?_⟩
   · conv => whnf
     repeat' (first | exact trivial | exact ⟨rfl, rfl⟩ | exact ⟨_, h19, rfl, rfl⟩ | exact ⟨_, h20, rfl, rfl⟩ | refine ⟨?_, ?_⟩)
   conv => whnf
   refine ⟨trivial, ?_⟩
   conv => whnf
   refine ⟨trivial, ?_⟩
   conv => whnf
   exact Or.inr ⟨[0, 1, 2, 3, 4, 5, 6, 7, 8, 9], .o (.c (.val .nilIface)), [rdB 1 3 4 9 true, .dead, .dead, .dead, .dead, .dead, ohB X, rowB X, rowB (X.drop 21), mpB 8 X], ⟨rfl, ⟨rfl, rfl, l1 _, l2 _, l3 _, l4 _, l5 _, rfl, rfl, rfl, rfl, rfl, rfl, by
     show some (Blk.cells 102 [u8 X 19, u8 X 20, .vec 8 (X.drop 21).length, .val (.slice none 0 0)]) = some (Blk.cells 102 [u8 X 19, u8 X 20, .vec 8 (X.length - 21), .val (.slice none 0 0)])
     rw [List.length_drop], rfl, trivial⟩, rfl⟩, rfl, .inl ⟨g, rfl, rfl⟩⟩
 · have hl : X.length = 21 := by omega
   have hnil : X.drop 21 = [] := List.drop_of_length_le (by omega)
   conv => whnf
   refine ⟨by decide, Int, encI .u8, [], X.drop 21, fun _ => rfl, ⟨rfl, rfl, by show 0 + 0 ≤ X.length; omega, by rw [hnil]; rfl, by rw [hnil]; rfl⟩, by rw [List.length_drop]; omega, by rw [List.length_drop]; omega, ?_⟩
   conv => whnf
   refine ⟨?_, ?_⟩
   · conv => whnf
     repeat' (first | exact trivial | exact ⟨rfl, rfl⟩ | exact ⟨_, h19, rfl, rfl⟩ | exact ⟨_, h20, rfl, rfl⟩ | refine ⟨?_, ?_⟩)
   conv => whnf
   refine ⟨trivial, ?_⟩
   conv => whnf
   refine ⟨trivial, ?_⟩
   conv => whnf
   exact Or.inr ⟨[0, 1, 2, 3, 4, 5, 6, 7, 8, 9], .o (.c (.val .nilIface)), [rdB 1 3 4 9 true, .dead, .dead, .dead, .dead, .dead, ohB X, rowB X, rowB (X.drop 21), mpB 8 X], ⟨rfl, ⟨rfl, rfl, l1 _, l2 _, l3 _, l4 _, l5 _, rfl, rfl, rfl, rfl, rfl, rfl, by
     show some (Blk.cells 102 [u8 X 19, u8 X 20, .vec 8 (X.drop 21).length, .val (.slice none 0 0)]) = some (Blk.cells 102 [u8 X 19, u8 X 20, .vec 8 (X.length - 21), .val (.slice none 0 0)])
     rw [List.length_drop], rfl, trivial⟩, rfl⟩, rfl, .inl ⟨g, rfl, rfl⟩⟩
def okM (X : List Int) : Prop := (bt X 18 = 0 ∧ X.length = 19) ∨ (bt X 18 ≠ 0 ∧ X.length = 21 + bt X 9)
theorem parseMapW {w0 : World} {t : TypeId} {v : Nat → Value} (he : Errs w0 t v) {X : List Int} (hX : Byt X) (hXl : X.length ≤ 65536) (hm : bt X 18 = 0 ∨ bt X 18 = 1 ∨ bt X 18 = 255) : CallsA Tryz.prog w0 133 [.c (.ptr 0 0), .c (.ptr 6 0), .c (.vec 7 X.length)] [rdB 1 3 4 5 false, .dead, .dead, .dead, .dead, .dead, ohB X, rowB X] fun r H =>
   (bt X 18 = 0 ∧ X.length = 19 ∧ r = .o (.c (.val .nilIface)) ∧ H = [rdB 1 3 4 5 false, .dead, .dead, .dead, .dead, .dead, ohB X, rowB X]) ∨
   (bt X 18 ≠ 0 ∧ X.length = 21 + bt X 9 ∧ r = .o (.c (.val .nilIface)) ∧ H = [rdB 1 3 4 9 true, .dead, .dead, .dead, .dead, .dead, ohB X, rowB X, rowB (X.drop 21), mpB 8 X]) ∨
   (¬ okM X ∧ r = .o (.c (.val (.iface t (v 10)))) ∧ H = d8) := by
 refine callsA_of_ev c133_ ?_
 conv => whnf
 refine ⟨fun g => ?_, fun g => ?_⟩
 · have g : bt X 18 = 0 := beq_t (b := 0) g
   conv => whnf
   refine Or.inl ?_
   conv => whnf
   refine ⟨fun g1 => ?_, fun g1 => ?_⟩
   · have g1 : X.length ≠ 19 := of_bne (b := 19) g1
     conv => whnf
     refine ⟨.iface t (v 10), ?_⟩
     conv => whnf
     refine ⟨he.get 10 (by decide) (by decide) (by decide), ?_⟩
     conv => whnf
     refine ⟨rfl, ?_⟩
     conv => whnf
     exact Or.inr ⟨[0, 1, 2, 3, 4, 5, 6, 7], .o (.c (.val (.iface t (v 10)))), d8, ⟨rfl, ⟨l0 _, l1 _, l2 _, l3 _, l4 _, l5 _, l6 _, l7 _, trivial⟩, rfl⟩, rfl, .inr (.inr ⟨fun h => h.elim (fun h => g1 h.2) (fun h => h.1 g), rfl, rfl⟩)⟩
   · have g1 : X.length = 19 := of_bne_f (b := 19) g1
     conv => whnf
     exact Or.inl (.inl ⟨g, g1, rfl, rfl⟩)
 have g : bt X 18 ≠ 0 := beq_f (b := 0) g
 conv => whnf
 refine Or.inr ⟨Unit, fun _ => ⟨[(0, .o (.c (.ptr 0 0))), (1, .o (.c (.ptr 6 0))), (2, .o (.c (.vec 7 X.length))), (10, .o (.c (u8 X 18))), (23, .o (.c (.val (.bool true))))], [rdB 1 3 4 5 false, .dead, .dead, .dead, .dead, .dead, ohB X, rowB X]⟩, ?_, fun _ => ?_⟩
 · conv => whnf
   refine ⟨fun g1 => ?_, fun g1 => ?_⟩
   · conv => whnf
     exact ⟨(), [0, 1, 2, 3, 4, 5, 6, 7], ⟨rfl, ⟨rfl, rfl, l1 _, l2 _, l3 _, l4 _, l5 _, rfl, rfl, rfl, rfl, trivial⟩, rfl⟩, rfl, rfl, rfl, rfl, by show some (AV.o (.c (.val (.bool (((bt X 18 : Nat) : Int) == ((1 : Nat) : Int)))))) = some (AV.o (.c (.val (.bool true)))); rw [show (((bt X 18 : Nat) : Int) == ((1 : Nat) : Int)) = true from g1], trivial⟩
   · have g1 : bt X 18 ≠ 1 := beq_f (b := 1) g1
     conv => whnf
     refine ⟨fun g2 => absurd (beq_t (a := bt X 18) (b := 2) g2) (by omega), fun _ => ?_⟩
     conv => whnf
     exact ⟨(), [0, 1, 2, 3, 4, 5, 6, 7], ⟨rfl, ⟨rfl, rfl, l1 _, l2 _, l3 _, l4 _, l5 _, rfl, rfl, rfl, rfl, trivial⟩, rfl⟩, rfl, rfl, rfl, rfl, by show some (AV.o (.c (.val (.bool (((bt X 18 : Nat) : Int) == ((255 : Nat) : Int)))))) = some (AV.o (.c (.val (.bool true)))); rw [show bt X 18 = 255 by omega]; rfl, trivial⟩
 conv => whnf
 refine ⟨fun _ => ?_, fun g => zT g⟩
 conv => whnf
 refine CallsA.lift (H0 := [rdB 1 3 4 5 false, .dead, .dead, .dead, .dead, .dead, ohB X, rowB X]) [0, 1, 2, 3, 4, 5, 6, 7] rfl ⟨rfl, rfl, l1 _, l2 _, l3 _, l4 _, l5 _, rfl, rfl, rfl, rfl, trivial⟩ rfl (parseStreamW he hX hXl) ?_
 rintro _ _ (⟨h1, rfl, rfl⟩ | ⟨h1, rfl, rfl⟩)
 · conv => whnf
   exact Or.inl (.inr (.inl ⟨g, h1, rfl, rfl⟩))
 · conv => whnf
   exact Or.inl (.inr (.inr ⟨fun h => h.elim (fun h => g h.1) (fun h => h1 h.2), rfl, rfl⟩))
end Go.Proofs.YtokkphocaloelaaGreatDoor

end
section
namespace Go.Proofs.YtokkphocaloelaaGreatDoor
open Go Go.Vc
set_option maxRecDepth 100000
set_option maxHeartbeats 8000000

theorem l8 (n : Nat) : 8 < n + 9 := by omega
theorem l12 (n : Nat) : 12 < n + 13 := by omega
structure Opens (L : List Int) (g : PgI) (rest : List Int) (k : Nat) : Prop where
 pg : pageI L = some (g, rest)
 siz : g.sizes = lenI g.segs
 one : OneP g.segs k
 byt : Byt g.hdr
 len : g.hdr.length = 27
 sig : g.hdr.take 4 = [79, 103, 103, 83]
 fla : bt g.hdr 5 = 2
 bX : Byt g.segs.flatten
 lX : g.segs.flatten.length ≤ 65536
 map : bt g.segs.flatten 18 = 0 ∨ bt g.segs.flatten 18 = 1 ∨ bt g.segs.flatten 18 = 255
def ps0 : Blk := psB 6 7 .none none false 0 false
def rst8 (L : List Int) (s : Sr) : List Blk := [rdB 1 3 4 5 false, srcB 2 L s, datB L, tabB tabL, ps0, .dead, .dead, .dead]
theorem nextPacket1W {w0 : World} {t : TypeId} {v : Nat → Value} (he : Errs w0 t v) {L : List Int} {s : Sr} (hs : s.ok L) (hLb : Byt L) (hL : L.length ≤ 1099511627776) (hrb : Byt (s.rem L))
   (ho : ∀ g rest, pageI (s.rem L) = some (g, rest) → ∃ k, Opens (s.rem L) g rest k) :
   CallsA Tryz.prog w0 30 [.c (.ptr 0 0)] (rst8 L s) fun r H => match pageI (s.rem L) with
     | none => ∃ k : Nat, (k = 0 ∨ k = 1 ∨ k = 5) ∧ r = .t [.c (.val (.slice none 0 0)), .c (.val (.pointer none)), .c (.val (.iface t (v k)))] ∧ H = d8
     | some (g, rest) => ∃ (s' : Sr) (o c : Nat), s'.ok L ∧ s'.rem L = rest ∧ r = .t [.c (.vec 9 g.segs.flatten.length), .c (.ptr 10 0), .c (.val .nilIface)] ∧
         H = [rdB 1 3 4 5 false, srcB 2 L s', datB L, tabB tabL, psB 8 7 (.sli o 0 c) none false (mkLi g.hdr 0) (mkHl g.hdr false), .dead, .dead, .dead, .dead, rowB g.segs.flatten, hpB g.hdr] := by
 have hpd := pageDataW he false hs hLb hL hrb
 obtain ⟨G, hG⟩ : ∃ G, G = pageI (s.rem L) := ⟨_, rfl⟩
 rw [← hG] at hpd ho ⊢
 refine callsA_of_ev c30_ ?_
 conv => whnf
 refine CallsA.liftK (H0 := [rdB 1 3 4 5 false, .dead, .dead, .dead, .dead, .dead]) [0, 1, 2, 3, 4, 5] [rdB 1 3 4 5 false, .dead, .dead, .dead, .dead, .dead, .dead, .dead] ⟨rfl, trivial⟩ rfl ⟨rfl, rfl, l1 _, l2 _, l3 _, l4 _, l5 _, trivial⟩ rfl (getStateW w0 false) ?_
 rintro _ _ ⟨rfl, rfl⟩
 conv => whnf
 refine Or.inl ?_
 conv => whnf
 refine ⟨fun g => zF g, fun _ => ?_⟩
 conv => whnf
 refine ⟨Unit, fun _ => ⟨[(0, .o (.c (.ptr 0 0))), (5, .o (.c (.ptr 4 0)))], rst8 L s⟩, fun _ => 0, ⟨(), [0, 1, 2, 3, 4, 5, 6, 7], ⟨rfl, ⟨rfl, rfl, srcE (by rfl) _, rfl, rfl, rfl, rfl, rfl, rfl, rfl, l5 _, l6 _, l7 _, trivial⟩, rfl⟩, rfl, rfl, trivial⟩, fun _ => ?_⟩
 conv => whnf
 refine CallsA.liftK (H0 := [rdB 1 3 4 5 false, srcB 2 L s, datB L, tabB tabL, .dead, .dead]) [0, 1, 2, 3, 4, 5] [rdB 1 3 4 5 false, srcB 2 L s, datB L, tabB tabL, .dead, .dead, .dead, .dead] ⟨rfl, rfl, rfl, rfl, trivial⟩ rfl ⟨rfl, rfl, srcE (by rfl) _, rfl, rfl, rfl, rfl, rfl, l4 _, l5 _, trivial⟩ rfl hpd ?_
 intro r H hrH
 cases G with
 | none =>
   obtain ⟨k, hk, hk0, rfl, rfl⟩ := hrH
   have hkk : k < 12 ∧ k ≠ 3 ∧ k ≠ 6 := by omega
   conv => whnf
   refine Or.inl ?_
   conv => whnf
   refine ⟨fun _ => ?_, fun g => zT g⟩
   conv => whnf
   refine Or.inl ?_
   conv => whnf
   refine ⟨.iface t (v 0), ?_⟩
   conv => whnf
   refine ⟨he.get 0 (by decide) (by decide) (by decide), ?_⟩
   conv => whnf
   refine ⟨rfl, ?_⟩
   conv => whnf
   refine ⟨_, he.eq0 k hkk.1 hkk.2.1 hkk.2.2, ?_⟩
   conv => whnf
   refine ⟨fun g => ?_, fun g => ?_⟩
   · conv => whnf
     refine ⟨fun g => zF g, fun _ => ?_⟩
     conv => whnf
     exact Or.inr ⟨[0, 1, 2, 3, 4, 5, 6, 7], .t [.c (.val (.slice none 0 0)), .c (.val (.pointer none)), .c (.val (.iface t (v k)))], d8, ⟨rfl, ⟨l0 _, l1 _, l2 _, l3 _, l4 _, l5 _, l6 _, l7 _, trivial⟩, rfl⟩, rfl, k, hk, rfl, rfl⟩
   · conv => whnf
     exact Or.inr ⟨[0, 1, 2, 3, 4, 5, 6, 7], .t [.c (.val (.slice none 0 0)), .c (.val (.pointer none)), .c (.val (.iface t (v k)))], d8, ⟨rfl, ⟨l0 _, l1 _, l2 _, l3 _, l4 _, l5 _, l6 _, l7 _, trivial⟩, rfl⟩, rfl, k, hk, rfl, rfl⟩
 | some x =>
   obtain ⟨g, rest⟩ := x
   obtain ⟨s', hs', hr', rfl, rfl⟩ := hrH
   obtain ⟨k, hop⟩ := ho g rest rfl
   obtain ⟨h, sizes, segs⟩ := g
   have hsz : sizes = lenI segs := hop.siz
   subst hsz
   have hone : OneP segs k := hop.one
   have hl1 : segs.length = k + 1 := hone.len
   have hl2 : (lenI segs).length = k + 1 := by unfold lenI; rw [List.length_map]; exact hl1
   conv => whnf
   refine Or.inr ⟨Unit, fun _ => ⟨[(0, .o (.c (.ptr 0 0))), (5, .o (.c (.ptr 4 0))), (7, .o (.c (.vec 10 (k + 1)))), (8, .o (.c (.vec 9 (k + 1)))), (9, .o (.c (.ptr 8 0)))], [rdB 1 3 4 5 false, srcB 2 L s', datB L, tabB tabL, ps0, .dead, .dead, .dead, hpB h, rowB (lenI segs), outB 11 segs, segB segs]⟩, ?_, fun _ => ?_⟩
   · conv => whnf
     refine ⟨fun g => zF g, fun _ => ?_⟩
     conv => whnf
     refine ⟨(), [0, 1, 2, 3, 4, 5, 6, 7, 8, 9, 10, 11], ⟨rfl, ⟨rfl, rfl, srcEE (by rfl) (by rfl) _, rfl, rfl, rfl, rfl, rfl, rfl, rfl, l5 _, l6 _, l7 _, rfl, rfl, rfl, rfl, rfl, rfl, rfl, rfl, trivial⟩, rfl⟩, rfl, rfl, ?_, ?_, rfl, trivial⟩
     · show some (AV.o (.c (CV.vec 10 segs.length))) = some (AV.o (.c (CV.vec 10 (k + 1))))
       rw [hl1]
     · show some (AV.o (.c (CV.vec 9 (lenI segs).length))) = some (AV.o (.c (CV.vec 9 (k + 1))))
       rw [hl2]
   conv => whnf
   refine Or.inr ⟨Unit, fun _ => ⟨[(0, .o (.c (.ptr 0 0))), (5, .o (.c (.ptr 4 0)))], [rdB 1 3 4 5 false, srcB 2 L s', datB L, tabB tabL, psB 12 7 (.vec 1) none false (mkLi h 0) (mkHl h false), .dead, .dead, .dead, .dead, .dead, .dead, .dead, quB 13 14 segs.flatten.length, rowB segs.flatten, hpB h]⟩, ?_, fun _ => ?_⟩
   · conv => whnf
     refine CallsA.liftK (H0 := [rdB 1 3 4 5 false, .dead, .dead, .dead, psB 6 7 .none none false 0 false, .dead, .dead, .dead, hpB h, rowB (lenI segs), outB 11 segs, segB segs]) [0, 1, 2, 3, 4, 5, 6, 7, 8, 9, 10, 11] [rdB 1 3 4 5 false, .dead, .dead, .dead, psB 6 7 .none none false 0 false, .dead, .dead, .dead, hpB h, rowB (lenI segs), outB 11 segs, segB segs] ⟨rfl, rfl, rfl, rfl, rfl, rfl, trivial⟩ rfl ⟨rfl, rfl, l1 _, l2 _, l3 _, rfl, rfl, l5 _, l6 _, l7 _, rfl, rfl, rfl, rfl, rfl, rfl, rfl, rfl, trivial⟩ rfl (queuePkW w0 false hop.byt (by rw [show bt h 5 = 2 from hop.fla]) hone) ?_
     rintro _ _ ⟨rfl, rfl⟩
     conv => whnf
     refine ⟨fun g => zF g, fun _ => ?_⟩
     conv => whnf
     exact ⟨(), [0, 1, 2, 3, 4, 5, 6, 7, 8, 9, 10, 11, 12, 13, 14], ⟨rfl, ⟨rfl, rfl, srcE (by rfl) _, rfl, rfl, rfl, rfl, rfl, rfl, rfl, l5 _, l6 _, l7 _, l8 _, l9 _, l10 _, l11 _, rfl, rfl, rfl, rfl, rfl, rfl, trivial⟩, rfl⟩, rfl, rfl, trivial⟩
   conv => whnf
   refine ⟨fun _ => ?_, fun g => zT g⟩
   conv => whnf
   refine ⟨⟨by decide, by decide⟩, ?_⟩
   conv => whnf
   refine ⟨segs.flatten.length, rfl, ?_⟩
   conv => whnf
   refine ⟨⟨by decide, by decide, by decide⟩, .inl ⟨fun c _ _ => ?_, fun _ => ?_, fun _ h0 => absurd h0 (by decide)⟩⟩
   · conv => whnf
     exact Or.inr ⟨[0, 1, 2, 3, 4, 5, 6, 7, 12, 13, 14], .t [.c (.vec 9 segs.flatten.length), .c (.ptr 10 0), .c (.val .nilIface)], [rdB 1 3 4 5 false, srcB 2 L s', datB L, tabB tabL, psB 8 7 (.sli 1 0 (c - 1)) none false (mkLi h 0) (mkHl h false), .dead, .dead, .dead, .dead, rowB segs.flatten, hpB h], ⟨rfl, ⟨rfl, rfl, srcE (by rfl) _, rfl, rfl, rfl, rfl, rfl, rfl, rfl, l5 _, l6 _, l7 _, l12 _, rfl, rfl, rfl, rfl, trivial⟩, rfl⟩, rfl, s', 1, c - 1, hs', hr', rfl, rfl⟩
   · conv => whnf
     exact Or.inr ⟨[0, 1, 2, 3, 4, 5, 6, 7, 12, 13, 14], .t [.c (.vec 9 segs.flatten.length), .c (.ptr 10 0), .c (.val .nilIface)], [rdB 1 3 4 5 false, srcB 2 L s', datB L, tabB tabL, psB 8 7 (.sli 0 0 0) none false (mkLi h 0) (mkHl h false), .dead, .dead, .dead, .dead, rowB segs.flatten, hpB h], ⟨rfl, ⟨rfl, rfl, srcE (by rfl) _, rfl, rfl, rfl, rfl, rfl, rfl, rfl, l5 _, l6 _, l7 _, l12 _, rfl, rfl, rfl, rfl, trivial⟩, rfl⟩, rfl, s', 0, 0, hs', hr', rfl, rfl⟩
end Go.Proofs.YtokkphocaloelaaGreatDoor

end
section
namespace Go.Proofs.YtokkphocaloelaaGreatDoor
open Go Go.Vc
set_option maxRecDepth 100000
set_option maxHeartbeats 8000000

def eqL : List Blk → List Blk → Prop
 | [], [] => True
 | a :: r, b :: r' => a = b ∧ eqL r r'
 | _, _ => False
theorem eqL.eq : ∀ {l l' : List Blk}, eqL l l' → l = l'
 | [], [], _ => rfl
 | _ :: _, _ :: _, h => by rw [h.1, eqL.eq h.2]
 | [], _ :: _, h => h.elim
 | _ :: _, [], h => h.elim
theorem CallsA.liftE {P : Program} {w0 : World} {f : FuncId} {args0 args : List A1} {H0 H : List Blk} {R0 R : AV → List Blk → Prop} (σ : List Nat) (hσn : nodupB σ = true) (hemb : embH σ H H0 σ) (hargs : args0.map (A1.ren σ) = args) (h : CallsA P w0 f args0 H0 R0)
   (hR : ∀ r0 H0', R0 r0 H0' → ∃ r1 H1, r0.ren (widen σ H H0') = r1 ∧ eqL (putAll σ (H0'.map (Blk.ren (widen σ H H0'))) H) H1 ∧ R r1 H1) : CallsA P w0 f args H R :=
 CallsA.lift σ hσn hemb hargs h fun r0 H0' h0 => by
   obtain ⟨r1, H1, h1, h2, h3⟩ := hR r0 H0' h0
   rw [h1, h2.eq]
   exact h3
theorem CallsA.liftKE {P : Program} {w0 : World} {f : FuncId} {args0 args : List A1} {H0 H : List Blk} {R0 R : AV → List Blk → Prop} (σ : List Nat) (Hd : List Blk) (hk : kill Hd H) (hσn : nodupB σ = true) (hemb : embH σ Hd H0 σ) (hargs : args0.map (A1.ren σ) = args) (h : CallsA P w0 f args0 H0 R0)
   (hR : ∀ r0 H0', R0 r0 H0' → ∃ r1 H1, r0.ren (widen σ Hd H0') = r1 ∧ eqL (Go.Vc.wake Hd H (putAll σ (H0'.map (Blk.ren (widen σ Hd H0'))) Hd)) H1 ∧ R r1 H1) : CallsA P w0 f args H R :=
 CallsA.liftK σ Hd hk hσn hemb hargs h fun r0 H0' h0 => by
   obtain ⟨r1, H1, h1, h2, h3⟩ := hR r0 H0' h0
   rw [h1, h2.eq]
   exact h3
def okX (X : List Int) : Prop := 19 ≤ X.length ∧ X.take 8 = opusHead ∧ okM X
def hd8 (L : List Int) (s : Sr) (q : Qs) (h X : List Int) : List Blk :=
 if bt X 18 = 0 then [rdB 1 3 4 5 false, srcB 2 L s, datB L, tabB tabL, psB 8 7 q none false (mkLi h 0) (mkHl h false), .dead, .dead, .dead, .dead, ohB X]
 else [rdB 1 3 4 11 true, srcB 2 L s, datB L, tabB tabL, psB 8 7 q none false (mkLi h 0) (mkHl h false), .dead, .dead, .dead, .dead, ohB X, rowB (X.drop 21), mpB 10 X]
def headP (L : List Int) (r : AV) (H : List Blk) (t : TypeId) (v : Nat → Value) (pre : List A1) (a b : Nat) (G : Option (PgI × List Int)) (bad : List Blk) (f : Sr → Qs → PgI → List Blk) : Prop :=
 match G with
 | none => ∃ k : Nat, (k < 12 ∧ k ≠ 3 ∧ k ≠ 6) ∧ r = .t (List.replicate b (.c (.val (.pointer none))) ++ [.c (.val (.iface t (v k)))]) ∧ H = bad
 | some (g, rest) =>
   (¬ okX g.segs.flatten ∧ ∃ k : Nat, (k < 12 ∧ k ≠ 3 ∧ k ≠ 6) ∧ r = .t (List.replicate b (.c (.val (.pointer none))) ++ [.c (.val (.iface t (v k)))]) ∧ H = bad) ∨
   (okX g.segs.flatten ∧ ∃ (s' : Sr) (o c : Nat), s'.ok L ∧ s'.rem L = rest ∧ r = .t (pre ++ [.c (.ptr a 0), .c (.val .nilIface)]) ∧ H = f s' (.sli o 0 c) g)
theorem d8emb {H : List Blk} (n : Nat) (h : H.length = 8 + n) : 0 < H.length ∧ 1 < H.length ∧ 2 < H.length ∧ 3 < H.length ∧ 4 < H.length ∧ 5 < H.length ∧ 6 < H.length ∧ 7 < H.length ∧ True := by refine ⟨?_, ?_, ?_, ?_, ?_, ?_, ?_, ?_, trivial⟩ <;> omega
theorem readHeadersW {w0 : World} {t : TypeId} {v : Nat → Value} (he : Errs w0 t v) {L : List Int} {s : Sr} (hs : s.ok L) (hLb : Byt L) (hL : L.length ≤ 1099511627776) (hrb : Byt (s.rem L))
   (ho : ∀ g rest, pageI (s.rem L) = some (g, rest) → ∃ k, Opens (s.rem L) g rest k) :
   CallsA Tryz.prog w0 120 [.c (.ptr 0 0)] (rst8 L s) fun r H => headP L r H t v [] 9 1 (pageI (s.rem L)) d8 fun s' q g => hd8 L s' q g.hdr g.segs.flatten := by
 have hnp := nextPacket1W he hs hLb hL hrb ho
 obtain ⟨G, hG⟩ : ∃ G, G = pageI (s.rem L) := ⟨_, rfl⟩
 rw [← hG] at hnp ho ⊢
 refine callsA_of_ev c120_ ?_
 conv => whnf
 refine CallsA.liftE (H0 := rst8 L s) [0, 1, 2, 3, 4, 5, 6, 7] rfl ⟨rfl, rfl, srcE (by rfl) _, rfl, rfl, rfl, rfl, rfl, rfl, rfl, l5 _, l6 _, l7 _, trivial⟩ rfl hnp ?_
 intro r H hrH
 cases G with
 | none =>
   obtain ⟨k, hk, rfl, rfl⟩ := hrH
   have hkk : k < 12 ∧ k ≠ 3 ∧ k ≠ 6 := by omega
   refine ⟨.t [.c (.val (.slice none 0 0)), .c (.val (.pointer none)), .c (.val (.iface t (v k)))], d8, rfl, ⟨rfl, rfl, rfl, rfl, rfl, rfl, rfl, rfl, trivial⟩, ?_⟩
   conv => whnf
   refine Or.inl ?_
   conv => whnf
   refine ⟨fun _ => ?_, fun g => zT g⟩
   conv => whnf
   exact Or.inr ⟨[0, 1, 2, 3, 4, 5, 6, 7], .t [.c (.val (.pointer none)), .c (.val (.iface t (v k)))], d8, ⟨rfl, ⟨l0 _, l1 _, l2 _, l3 _, l4 _, l5 _, l6 _, l7 _, trivial⟩, rfl⟩, rfl, k, hkk, rfl, rfl⟩
 | some x =>
   obtain ⟨g, rest⟩ := x
   obtain ⟨s', o, c, hs', hr', rfl, rfl⟩ := hrH
   obtain ⟨k, hop⟩ := ho g rest rfl
   obtain ⟨h, sizes, segs⟩ := g
   have hbX : Byt segs.flatten := hop.bX
   have hlX : segs.flatten.length ≤ 65536 := hop.lX
   have hmX : bt segs.flatten 18 = 0 ∨ bt segs.flatten 18 = 1 ∨ bt segs.flatten 18 = 255 := hop.map
   have hbh : Byt h := hop.byt
   have hlh : h.length = 27 := hop.len
   have hsg : h.take 4 = [79, 103, 103, 83] := hop.sig
   have hfl : bt h 5 = 2 := hop.fla
   refine ⟨.t [.c (.vec 9 segs.flatten.length), .c (.ptr 10 0), .c (.val .nilIface)], [rdB 1 3 4 5 false, srcB 2 L s', datB L, tabB tabL, psB 8 7 (.sli o 0 c) none false (mkLi h 0) (mkHl h false), .dead, .dead, .dead, .dead, rowB segs.flatten, hpB h], rfl, ⟨rfl, srcB_ren (by rfl) _, rfl, rfl, rfl, rfl, rfl, rfl, rfl, rfl, rfl, trivial⟩, ?_⟩
   conv => whnf
   refine Or.inl ?_
   conv => whnf
   refine ⟨fun g => zF g, fun _ => ?_⟩
   conv => whnf
   refine CallsA.liftE (H0 := [hpB h, rowB segs.flatten]) [10, 9] rfl ⟨rfl, rfl, rfl, rfl, trivial⟩ rfl (parseIDW he hbh hlh hbX hsg hfl) ?_
   rintro _ _ (⟨h1, rfl, rfl⟩ | ⟨h1, k1, hk1, rfl, rfl⟩)
   case inr =>
     have hkk := hk1.lt
     refine ⟨.t [.c (.val (.pointer none)), .c (.val (.iface t (v k1)))], [rdB 1 3 4 5 false, srcB 2 L s', datB L, tabB tabL, psB 8 7 (.sli o 0 c) none false (mkLi h 0) (mkHl h false), .dead, .dead, .dead, .dead, .dead, .dead], rfl, ⟨rfl, rfl, rfl, rfl, rfl, rfl, rfl, rfl, rfl, rfl, rfl, trivial⟩, ?_⟩
     conv => whnf
     refine Or.inl ?_
     conv => whnf
     refine ⟨fun _ => ?_, fun g => zT g⟩
     conv => whnf
     exact Or.inr ⟨[0, 1, 2, 3, 4, 5, 6, 7], .t [.c (.val (.pointer none)), .c (.val (.iface t (v k1)))], d8, ⟨rfl, ⟨l0 _, l1 _, l2 _, l3 _, l4 _, l5 _, l6 _, l7 _, trivial⟩, rfl⟩, rfl, .inl ⟨fun hx => h1 ⟨hx.1, hx.2.1⟩, k1, ⟨hkk.1, hkk.2.1, hkk.2.2.1⟩, rfl, rfl⟩⟩
   refine ⟨.t [.c (.ptr 11 0), .c (.val .nilIface)], [rdB 1 3 4 5 false, srcB 2 L s', datB L, tabB tabL, psB 8 7 (.sli o 0 c) none false (mkLi h 0) (mkHl h false), .dead, .dead, .dead, .dead, rowB segs.flatten, hpB h, ohB segs.flatten], rfl, ⟨rfl, rfl, rfl, rfl, rfl, rfl, rfl, rfl, rfl, rfl, rfl, rfl, trivial⟩, ?_⟩
   conv => whnf
   refine Or.inl ?_
   conv => whnf
   refine ⟨fun g => zF g, fun _ => ?_⟩
   conv => whnf
   refine Or.inl ?_
   conv => whnf
   refine CallsA.liftKE (H0 := [rdB 1 3 4 5 false, .dead, .dead, .dead, .dead, .dead, ohB segs.flatten, rowB segs.flatten]) [0, 1, 2, 3, 4, 5, 11, 9] [rdB 1 3 4 5 false, .dead, .dead, .dead, .dead, .dead, .dead, .dead, .dead, rowB segs.flatten, .dead, ohB segs.flatten] ⟨rfl, rfl, rfl, trivial⟩ rfl ⟨rfl, rfl, l1 _, l2 _, l3 _, l4 _, l5 _, rfl, rfl, rfl, rfl, trivial⟩ rfl (parseMapW he hbX hlX hmX) ?_
   rintro _ _ (⟨h2, h3, rfl, rfl⟩ | ⟨h2, h3, rfl, rfl⟩ | ⟨h2, rfl, rfl⟩)
   · refine ⟨.o (.c (.val .nilIface)), [rdB 1 3 4 5 false, srcB 2 L s', datB L, tabB tabL, psB 8 7 (.sli o 0 c) none false (mkLi h 0) (mkHl h false), .dead, .dead, .dead, .dead, rowB segs.flatten, hpB h, ohB segs.flatten], rfl, ⟨rfl, rfl, rfl, rfl, rfl, rfl, rfl, rfl, rfl, rfl, rfl, rfl, trivial⟩, ?_⟩
     conv => whnf
     refine ⟨fun g => zF g, fun _ => ?_⟩
     conv => whnf
     exact Or.inr ⟨[0, 1, 2, 3, 4, 5, 6, 7, 8, 11], .t [.c (.ptr 9 0), .c (.val .nilIface)], [rdB 1 3 4 5 false, srcB 2 L s', datB L, tabB tabL, psB 8 7 (.sli o 0 c) none false (mkLi h 0) (mkHl h false), .dead, .dead, .dead, .dead, ohB segs.flatten], ⟨rfl, ⟨rfl, rfl, srcE (by rfl) _, rfl, rfl, rfl, rfl, rfl, rfl, rfl, l5 _, l6 _, l7 _, l8 _, rfl, rfl, trivial⟩, rfl⟩, rfl, .inr ⟨⟨h1.1, h1.2, .inl ⟨h2, h3⟩⟩, s', o, c, hs', hr', rfl, (if_pos h2).symm⟩⟩
   · refine ⟨.o (.c (.val .nilIface)), [rdB 1 3 4 13 true, srcB 2 L s', datB L, tabB tabL, psB 8 7 (.sli o 0 c) none false (mkLi h 0) (mkHl h false), .dead, .dead, .dead, .dead, rowB segs.flatten, hpB h, ohB segs.flatten, rowB (segs.flatten.drop 21), mpB 12 segs.flatten], rfl, ⟨rfl, rfl, rfl, rfl, rfl, rfl, rfl, rfl, rfl, rfl, rfl, rfl, rfl, rfl, trivial⟩, ?_⟩
     conv => whnf
     refine ⟨fun g => zF g, fun _ => ?_⟩
     conv => whnf
     exact Or.inr ⟨[0, 1, 2, 3, 4, 5, 6, 7, 8, 11, 12, 13], .t [.c (.ptr 9 0), .c (.val .nilIface)], [rdB 1 3 4 11 true, srcB 2 L s', datB L, tabB tabL, psB 8 7 (.sli o 0 c) none false (mkLi h 0) (mkHl h false), .dead, .dead, .dead, .dead, ohB segs.flatten, rowB (segs.flatten.drop 21), mpB 10 segs.flatten], ⟨rfl, ⟨rfl, rfl, srcE (by rfl) _, rfl, rfl, rfl, rfl, rfl, rfl, rfl, l5 _, l6 _, l7 _, l8 _, rfl, rfl, rfl, rfl, rfl, rfl, trivial⟩, rfl⟩, rfl, .inr ⟨⟨h1.1, h1.2, .inr ⟨h2, h3⟩⟩, s', o, c, hs', hr', rfl, (if_neg h2).symm⟩⟩
   · refine ⟨.o (.c (.val (.iface t (v 10)))), [.dead, srcB 2 L s', datB L, tabB tabL, psB 8 7 (.sli o 0 c) none false (mkLi h 0) (mkHl h false), .dead, .dead, .dead, .dead, .dead, hpB h, .dead], rfl, ⟨rfl, rfl, rfl, rfl, rfl, rfl, rfl, rfl, rfl, rfl, rfl, rfl, trivial⟩, ?_⟩
     conv => whnf
     refine ⟨fun _ => ?_, fun g => zT g⟩
     conv => whnf
     exact Or.inr ⟨[0, 1, 2, 3, 4, 5, 6, 7], .t [.c (.val (.pointer none)), .c (.val (.iface t (v 10)))], d8, ⟨rfl, d8emb 4 rfl, rfl⟩, rfl, .inl ⟨fun hx => h2 hx.2.2, 10, ⟨by decide, by decide, by decide⟩, rfl, rfl⟩⟩
end Go.Proofs.YtokkphocaloelaaGreatDoor

end
section
namespace Go.Proofs.YtokkphocaloelaaGreatDoor
open Go Go.Vc
set_option maxRecDepth 100000
set_option maxHeartbeats 8000000

def nwH (L : List Int) (s : Sr) (q : Qs) (h X : List Int) : List Blk :=
 if bt X 18 = 0 then [datB L, srcB 0 L s, rdB 1 3 4 5 false, tabB tabL, psB 6 7 q none false (mkLi h 0) (mkHl h false), .dead, .dead, .dead, ohB X, .dead]
 else [datB L, srcB 0 L s, rdB 1 3 4 5 true, tabB tabL, psB 6 7 q none false (mkLi h 0) (mkHl h false), mpB 9 X, .dead, .dead, ohB X, rowB (X.drop 21)]
def opH (L : List Int) (s : Sr) (q : Qs) (h X : List Int) : List Blk :=
 if bt X 18 = 0 then [rdB 1 3 4 5 false, srcB 2 L s, datB L, tabB tabL, psB 6 7 q none false (mkLi h 0) (mkHl h false), .dead, .dead, .dead, ohB X, .dead]
 else [rdB 1 3 4 5 true, srcB 2 L s, datB L, tabB tabL, psB 6 7 q none false (mkLi h 0) (mkHl h false), mpB 9 X, .dead, .dead, ohB X, rowB (X.drop 21)]
theorem newWithW {w0 : World} {t : TypeId} {v : Nat → Value} (he : Errs w0 t v) {L : List Int} (hLb : Byt L) (hL : L.length ≤ 1099511627776)
   (ho : ∀ g rest, pageI L = some (g, rest) → ∃ k, Opens L g rest k) :
   CallsA Tryz.prog w0 90 [.c (.ifc 118 1 0), .c (.val (.bool true))] [datB L, srcB 0 L none] fun r H => headP L r H t v [.c (.ptr 2 0)] 8 2 (pageI L) [.dead, .dead] fun s' q g => nwH L s' q g.hdr g.segs.flatten := by
 have hrh := readHeadersW he (s := none) trivial hLb hL hLb ho
 rw [show Sr.rem L none = L from rfl] at hrh
 obtain ⟨G, hG⟩ : ∃ G, G = pageI L := ⟨_, rfl⟩
 rw [← hG] at hrh ho ⊢
 refine callsA_of_ev c90_ ?_
 conv => whnf
 refine Or.inr ⟨Unit, fun _ => ⟨[(0, .o (.c (.ifc 118 1 0))), (1, .o (.c (.val (.bool true))))], [datB L, srcB 0 L none, .dead, .dead, .dead]⟩, ?_, fun _ => ?_⟩
 · conv => whnf
   refine ⟨fun g => zF g, fun _ => ?_⟩
   conv => whnf
   exact ⟨(), [0, 1, 0, 0, 0], ⟨rfl, ⟨rfl, rfl, rfl, rfl, l0 _, l0 _, l0 _, trivial⟩, rfl⟩, rfl, rfl, trivial⟩
 conv => whnf
 refine CallsA.liftE (H0 := []) [] rfl trivial rfl (genTableW w0) ?_
 rintro _ _ ⟨rfl, rfl⟩
 refine ⟨.o (.c (.ptr 5 0)), [datB L, srcB 0 L none, .dead, .dead, .dead, tabB tabL], rfl, ⟨rfl, rfl, rfl, rfl, rfl, rfl, trivial⟩, ?_⟩
 conv => whnf
 refine CallsA.liftE (H0 := rst8 L none) [7, 1, 0, 5, 6, 2, 3, 4] rfl ⟨rfl, rfl, rfl, rfl, rfl, rfl, rfl, rfl, rfl, rfl, l2 _, l3 _, l4 _, trivial⟩ rfl hrh ?_
 intro r H hrH
 cases G with
 | none =>
   obtain ⟨k, hk, rfl, rfl⟩ := hrH
   refine ⟨.t [.c (.val (.pointer none)), .c (.val (.iface t (v k)))], d8, rfl, ⟨rfl, rfl, rfl, rfl, rfl, rfl, rfl, rfl, trivial⟩, ?_⟩
   conv => whnf
   refine Or.inl ?_
   conv => whnf
   refine ⟨fun _ => ?_, fun g => zT g⟩
   conv => whnf
   exact Or.inr ⟨[0, 1], .t [.c (.val (.pointer none)), .c (.val (.pointer none)), .c (.val (.iface t (v k)))], [.dead, .dead], ⟨rfl, ⟨l0 _, l1 _, trivial⟩, rfl⟩, rfl, k, hk, rfl, rfl⟩
 | some x =>
   obtain ⟨g, rest⟩ := x
   rcases hrH with ⟨h1, k, hk, rfl, rfl⟩ | ⟨h1, s', o, c, hs', hr', rfl, rfl⟩
   · refine ⟨.t [.c (.val (.pointer none)), .c (.val (.iface t (v k)))], d8, rfl, ⟨rfl, rfl, rfl, rfl, rfl, rfl, rfl, rfl, trivial⟩, ?_⟩
     conv => whnf
     refine Or.inl ?_
     conv => whnf
     refine ⟨fun _ => ?_, fun g => zT g⟩
     conv => whnf
     exact Or.inr ⟨[0, 1], .t [.c (.val (.pointer none)), .c (.val (.pointer none)), .c (.val (.iface t (v k)))], [.dead, .dead], ⟨rfl, ⟨l0 _, l1 _, trivial⟩, rfl⟩, rfl, .inl ⟨h1, k, hk, rfl, rfl⟩⟩
   · unfold hd8 nwH headP
     by_cases h18 : bt g.segs.flatten 18 = 0
     · simp only [if_pos h18]
       refine ⟨.t [.c (.ptr 9 0), .c (.val .nilIface)], [datB L, srcB 0 L s', .dead, .dead, .dead, tabB tabL, psB 8 4 (.sli o 0 c) none false (mkLi g.hdr 0) (mkHl g.hdr false), rdB 1 5 6 2 false, .dead, ohB g.segs.flatten], rfl, ⟨rfl, srcB_ren (by rfl) _, rfl, rfl, rfl, rfl, rfl, rfl, rfl, rfl, trivial⟩, ?_⟩
       conv => whnf
       refine Or.inl ?_
       conv => whnf
       refine ⟨fun g => zF g, fun _ => ?_⟩
       conv => whnf
       exact Or.inr ⟨[0, 1, 7, 5, 6, 2, 8, 4, 9, 3], .t [.c (.ptr 2 0), .c (.ptr 8 0), .c (.val .nilIface)], [datB L, srcB 0 L s', rdB 1 3 4 5 false, tabB tabL, psB 6 7 (.sli o 0 c) none false (mkLi g.hdr 0) (mkHl g.hdr false), .dead, .dead, .dead, ohB g.segs.flatten, .dead], ⟨rfl, ⟨rfl, rfl, srcE (by rfl) _, rfl, rfl, rfl, rfl, rfl, rfl, rfl, l2 _, l8 _, l4 _, rfl, rfl, l3 _, trivial⟩, rfl⟩, rfl, .inr ⟨h1, s', o, c, hs', hr', rfl, rfl⟩⟩
     · simp only [if_neg h18]
       refine ⟨.t [.c (.ptr 9 0), .c (.val .nilIface)], [datB L, srcB 0 L s', .dead, .dead, .dead, tabB tabL, psB 8 4 (.sli o 0 c) none false (mkLi g.hdr 0) (mkHl g.hdr false), rdB 1 5 6 11 true, .dead, ohB g.segs.flatten, rowB (g.segs.flatten.drop 21), mpB 10 g.segs.flatten], rfl, ⟨rfl, srcB_ren (by rfl) _, rfl, rfl, rfl, rfl, rfl, rfl, rfl, rfl, rfl, rfl, trivial⟩, ?_⟩
       conv => whnf
       refine Or.inl ?_
       conv => whnf
       refine ⟨fun g => zF g, fun _ => ?_⟩
       conv => whnf
       exact Or.inr ⟨[0, 1, 7, 5, 6, 11, 8, 4, 9, 10], .t [.c (.ptr 2 0), .c (.ptr 8 0), .c (.val .nilIface)], [datB L, srcB 0 L s', rdB 1 3 4 5 true, tabB tabL, psB 6 7 (.sli o 0 c) none false (mkLi g.hdr 0) (mkHl g.hdr false), mpB 9 g.segs.flatten, .dead, .dead, ohB g.segs.flatten, rowB (g.segs.flatten.drop 21)], ⟨rfl, ⟨rfl, rfl, srcE (by rfl) _, rfl, rfl, rfl, rfl, rfl, rfl, rfl, rfl, rfl, l8 _, l4 _, rfl, rfl, rfl, rfl, trivial⟩, rfl⟩, rfl, .inr ⟨h1, s', o, c, hs', hr', rfl, rfl⟩⟩
theorem newWith0W {w0 : World} {t : TypeId} {v : Nat → Value} (he : Errs w0 t v) {L : List Int} (hLb : Byt L) (hL : L.length ≤ 1099511627776)
   (ho : ∀ g rest, pageI L = some (g, rest) → ∃ k, Opens L g rest k) :
   CallsA Tryz.prog w0 52 [.c (.ifc 118 1 0)] [datB L, srcB 0 L none] fun r H => headP L r H t v [.c (.ptr 2 0)] 8 2 (pageI L) [.dead, .dead] fun s' q g => nwH L s' q g.hdr g.segs.flatten := by
 have hrh := newWithW he hLb hL ho
 obtain ⟨G, hG⟩ : ∃ G, G = pageI L := ⟨_, rfl⟩
 rw [← hG] at hrh ⊢
 refine callsA_of_ev c52_ ?_
 conv => whnf
 refine CallsA.liftE (H0 := [datB L, srcB 0 L none]) [0, 1] rfl ⟨rfl, rfl, rfl, rfl, trivial⟩ rfl hrh ?_
 intro r H hrH
 cases G with
 | none =>
   obtain ⟨k, hk, rfl, rfl⟩ := hrH
   refine ⟨.t [.c (.val (.pointer none)), .c (.val (.pointer none)), .c (.val (.iface t (v k)))], [.dead, .dead], rfl, ⟨rfl, rfl, trivial⟩, ?_⟩
   conv => whnf
   exact Or.inr ⟨[0, 1], .t [.c (.val (.pointer none)), .c (.val (.pointer none)), .c (.val (.iface t (v k)))], [.dead, .dead], ⟨rfl, ⟨l0 _, l1 _, trivial⟩, rfl⟩, rfl, k, hk, rfl, rfl⟩
 | some x =>
   obtain ⟨g, rest⟩ := x
   rcases hrH with ⟨h1, k, hk, rfl, rfl⟩ | ⟨h1, s', o, c, hs', hr', rfl, rfl⟩
   · refine ⟨.t [.c (.val (.pointer none)), .c (.val (.pointer none)), .c (.val (.iface t (v k)))], [.dead, .dead], rfl, ⟨rfl, rfl, trivial⟩, ?_⟩
     conv => whnf
     exact Or.inr ⟨[0, 1], .t [.c (.val (.pointer none)), .c (.val (.pointer none)), .c (.val (.iface t (v k)))], [.dead, .dead], ⟨rfl, ⟨l0 _, l1 _, trivial⟩, rfl⟩, rfl, .inl ⟨h1, k, hk, rfl, rfl⟩⟩
   · unfold nwH headP
     by_cases h18 : bt g.segs.flatten 18 = 0
     · simp only [if_pos h18]
       refine ⟨.t [.c (.ptr 2 0), .c (.ptr 8 0), .c (.val .nilIface)], [datB L, srcB 0 L s', rdB 1 3 4 5 false, tabB tabL, psB 6 7 (.sli o 0 c) none false (mkLi g.hdr 0) (mkHl g.hdr false), .dead, .dead, .dead, ohB g.segs.flatten, .dead], rfl, ⟨rfl, srcB_ren (by rfl) _, rfl, rfl, rfl, rfl, rfl, rfl, rfl, rfl, trivial⟩, ?_⟩
       conv => whnf
       exact Or.inl (.inr ⟨h1, s', o, c, hs', hr', rfl, rfl⟩)
     · simp only [if_neg h18]
       refine ⟨.t [.c (.ptr 2 0), .c (.ptr 8 0), .c (.val .nilIface)], [datB L, srcB 0 L s', rdB 1 3 4 5 true, tabB tabL, psB 6 7 (.sli o 0 c) none false (mkLi g.hdr 0) (mkHl g.hdr false), mpB 9 g.segs.flatten, .dead, .dead, ohB g.segs.flatten, rowB (g.segs.flatten.drop 21)], rfl, ⟨rfl, srcB_ren (by rfl) _, rfl, rfl, rfl, rfl, rfl, rfl, rfl, rfl, trivial⟩, ?_⟩
       conv => whnf
       exact Or.inl (.inr ⟨h1, s', o, c, hs', hr', rfl, rfl⟩)
end Go.Proofs.YtokkphocaloelaaGreatDoor

end
section
namespace Go.Proofs.YtokkphocaloelaaGreatDoor
open Go Go.Vc
set_option maxRecDepth 100000
set_option maxHeartbeats 8000000

theorem iOpenW {w0 : World} {t : TypeId} {v : Nat → Value} (he : Errs w0 t v) {b : ByteArray} (hs : b.size ≤ 1099511627776)
   (ho : ∀ g rest, pageI (bytesOf b) = some (g, rest) → ∃ k, Opens (bytesOf b) g rest k) :
   CallsA Tryz.prog w0 29 [.c (.val (.string b))] [] fun r H => headP (bytesOf b) r H t v [.c (.ptr 0 0)] 8 2 (pageI (bytesOf b)) [] fun s' q g => opH (bytesOf b) s' q g.hdr g.segs.flatten := by
 have hLb : Byt (bytesOf b) := byt_bytes b
 have hL : (bytesOf b).length ≤ 1099511627776 := by rw [bytesOf_len]; exact hs
 have hrh := newWith0W he hLb hL ho
 obtain ⟨G, hG⟩ : ∃ G, G = pageI (bytesOf b) := ⟨_, rfl⟩
 rw [← hG] at hrh ho ⊢
 refine callsA_of_ev c29_ ?_
 conv => whnf
 refine ⟨by omega, ?_⟩
 conv => whnf
 refine CallsA.liftE (H0 := [datB (bytesOf b), srcB 0 (bytesOf b) none]) [0, 1] rfl ⟨rfl, rfl, rfl, rfl, trivial⟩ rfl hrh ?_
 intro r H hrH
 cases G with
 | none =>
   obtain ⟨k, hk, rfl, rfl⟩ := hrH
   refine ⟨.t [.c (.val (.pointer none)), .c (.val (.pointer none)), .c (.val (.iface t (v k)))], [.dead, .dead], rfl, ⟨rfl, rfl, trivial⟩, ?_⟩
   conv => whnf
   refine Or.inl ?_
   conv => whnf
   refine ⟨fun _ => ?_, fun g => zT g⟩
   conv => whnf
   exact Or.inr ⟨[], .t [.c (.val (.pointer none)), .c (.val (.pointer none)), .c (.val (.iface t (v k)))], [], ⟨rfl, trivial, rfl⟩, rfl, k, hk, rfl, rfl⟩
 | some x =>
   obtain ⟨g, rest⟩ := x
   rcases hrH with ⟨h1, k, hk, rfl, rfl⟩ | ⟨h1, s', o, c, hs', hr', rfl, rfl⟩
   · refine ⟨.t [.c (.val (.pointer none)), .c (.val (.pointer none)), .c (.val (.iface t (v k)))], [.dead, .dead], rfl, ⟨rfl, rfl, trivial⟩, ?_⟩
     conv => whnf
     refine Or.inl ?_
     conv => whnf
     refine ⟨fun _ => ?_, fun g => zT g⟩
     conv => whnf
     exact Or.inr ⟨[], .t [.c (.val (.pointer none)), .c (.val (.pointer none)), .c (.val (.iface t (v k)))], [], ⟨rfl, trivial, rfl⟩, rfl, .inl ⟨h1, k, hk, rfl, rfl⟩⟩
   · unfold nwH opH headP
     by_cases h18 : bt g.segs.flatten 18 = 0
     · simp only [if_pos h18]
       refine ⟨.t [.c (.ptr 2 0), .c (.ptr 8 0), .c (.val .nilIface)], [datB (bytesOf b), srcB 0 (bytesOf b) s', rdB 1 3 4 5 false, tabB tabL, psB 6 7 (.sli o 0 c) none false (mkLi g.hdr 0) (mkHl g.hdr false), .dead, .dead, .dead, ohB g.segs.flatten, .dead], rfl, ⟨rfl, srcB_ren (by rfl) _, rfl, rfl, rfl, rfl, rfl, rfl, rfl, rfl, trivial⟩, ?_⟩
       conv => whnf
       refine Or.inl ?_
       conv => whnf
       refine ⟨fun g => zF g, fun _ => ?_⟩
       conv => whnf
       exact Or.inr ⟨[2, 1, 0, 3, 4, 5, 6, 7, 8, 9], .t [.c (.ptr 0 0), .c (.ptr 8 0), .c (.val .nilIface)], [rdB 1 3 4 5 false, srcB 2 (bytesOf b) s', datB (bytesOf b), tabB tabL, psB 6 7 (.sli o 0 c) none false (mkLi g.hdr 0) (mkHl g.hdr false), .dead, .dead, .dead, ohB g.segs.flatten, .dead], ⟨rfl, ⟨rfl, rfl, srcE (by rfl) _, rfl, rfl, rfl, rfl, rfl, rfl, rfl, l5 _, l6 _, l7 _, rfl, rfl, l9 _, trivial⟩, rfl⟩, rfl, .inr ⟨h1, s', o, c, hs', hr', rfl, rfl⟩⟩
     · simp only [if_neg h18]
       refine ⟨.t [.c (.ptr 2 0), .c (.ptr 8 0), .c (.val .nilIface)], [datB (bytesOf b), srcB 0 (bytesOf b) s', rdB 1 3 4 5 true, tabB tabL, psB 6 7 (.sli o 0 c) none false (mkLi g.hdr 0) (mkHl g.hdr false), mpB 9 g.segs.flatten, .dead, .dead, ohB g.segs.flatten, rowB (g.segs.flatten.drop 21)], rfl, ⟨rfl, srcB_ren (by rfl) _, rfl, rfl, rfl, rfl, rfl, rfl, rfl, rfl, trivial⟩, ?_⟩
       conv => whnf
       refine Or.inl ?_
       conv => whnf
       refine ⟨fun g => zF g, fun _ => ?_⟩
       conv => whnf
       exact Or.inr ⟨[2, 1, 0, 3, 4, 5, 6, 7, 8, 9], .t [.c (.ptr 0 0), .c (.ptr 8 0), .c (.val .nilIface)], [rdB 1 3 4 5 true, srcB 2 (bytesOf b) s', datB (bytesOf b), tabB tabL, psB 6 7 (.sli o 0 c) none false (mkLi g.hdr 0) (mkHl g.hdr false), mpB 9 g.segs.flatten, .dead, .dead, ohB g.segs.flatten, rowB (g.segs.flatten.drop 21)], ⟨rfl, ⟨rfl, rfl, srcE (by rfl) _, rfl, rfl, rfl, rfl, rfl, rfl, rfl, rfl, rfl, l6 _, l7 _, rfl, rfl, rfl, rfl, trivial⟩, rfl⟩, rfl, .inr ⟨h1, s', o, c, hs', hr', rfl, rfl⟩⟩
end Go.Proofs.YtokkphocaloelaaGreatDoor

end
section
namespace Go.Proofs.YtokkphocaloelaaGreatDoor
open Go Go.Vc
set_option maxRecDepth 100000
set_option maxHeartbeats 8000000

theorem pageI_facts {r r' : List Int} {g : PgI} (h : pageI r = some (g, r')) : r'.length + 27 ≤ r.length ∧ (Byt r → Byt r' ∧ g.segs.length ≤ 256 ∧ (∀ x ∈ g.segs, Byt x ∧ x.length ≤ 255)) := by
 unfold pageI at h
 split at h
 · cases h
 · rename_i h1
   split at h
   · cases h
   · rename_i h2
     split at h
     · cases h
     · rename_i segs q hs
       split at h
       · cases h
         obtain ⟨a, b, c, d⟩ := segsI_facts _ _ hs
         rw [List.length_drop] at d
         refine ⟨by omega, fun hr => ?_⟩
         · obtain ⟨e, f⟩ := b (hr.drop _)
           have hb := bt_lt hr 26
           exact ⟨e, by show segs.length ≤ 256; rw [List.length_take] at a; omega, fun x hx => ⟨f x hx, c ((hr.drop _).take _) x hx⟩⟩
       · cases h
def pgEl (g : PgI) : List ByteArray × Nat := (strsL g.segs, le ((g.hdr.drop 6).take 8))
inductive RdI (L : List Int) : List (List ByteArray × Nat) → List Int → Prop
 | nil : RdI L [] L
 | snoc {yy r g r'} : RdI L yy r → pageI r = some (g, r') → RdI L (yy ++ [pgEl g]) r'
theorem RdI.len {L r : List Int} {yy : List (List ByteArray × Nat)} (h : RdI L yy r) : yy.length * 27 + r.length ≤ L.length := by
 induction h with
 | nil => simp
 | snoc _ hp ih =>
   have := (pageI_facts hp).1
   rw [List.length_append]
   simp only [List.length_cons, List.length_nil]
   omega
theorem RdI.byt {L r : List Int} {yy : List (List ByteArray × Nat)} (h : RdI L yy r) (hL : Byt L) : Byt r := by
 induction h with
 | nil => exact hL
 | snoc _ hp ih => exact ((pageI_facts hp).2 ih).1
def allI (r : List Int) : List (List ByteArray × Nat) × List Int :=
 match _h : pageI r with
 | none => ([], r)
 | some (g, r') => (pgEl g :: (allI r').1, (allI r').2)
termination_by r.length
decreasing_by all_goals (have := (pageI_facts _h).1; omega)
theorem allI_none {r : List Int} (h : pageI r = none) : allI r = ([], r) := by
 rw [allI]
 split
 · rfl
 · rename_i h2
   rw [h] at h2
   cases h2
theorem allI_some {r r' : List Int} {g : PgI} (h : pageI r = some (g, r')) : allI r = (pgEl g :: (allI r').1, (allI r').2) := by
 rw [allI]
 split
 · rename_i h2
   rw [h] at h2
   cases h2
 · rename_i h2
   rw [h] at h2
   cases h2
   rfl
theorem RdI.all {L r : List Int} {yy : List (List ByteArray × Nat)} (h : RdI L yy r) : allI L = (yy ++ (allI r).1, (allI r).2) := by
 induction h with
 | nil => rfl
 | snoc _ hp ih => rw [ih, allI_some hp, List.append_assoc]; rfl
theorem RdI.fin {L r : List Int} {yy : List (List ByteArray × Nat)} (h : RdI L yy r) (hn : pageI r = none) : allI L = (yy, r) := by
 rw [h.all, allI_none hn, List.append_nil]
end Go.Proofs.YtokkphocaloelaaGreatDoor

end
