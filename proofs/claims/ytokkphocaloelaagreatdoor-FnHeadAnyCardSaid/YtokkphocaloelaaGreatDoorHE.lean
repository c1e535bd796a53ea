/- Joined: OgZ, PgA, PgB, PgC, PgD, PgE, PgG, PgH, PgI, PgJ, PgK, PgL, PgM, PgN, PgO, IrU, PuM, RwLaid, PuN, PuO, IrW. -/
import Derived.Test.YtokkphocaloelaaGreatDoorHD
section
namespace Go.Proofs.YtokkphocaloelaaGreatDoor
open Go Go.Vc
set_option maxRecDepth 100000
set_option maxHeartbeats 8000000

def Pg.okW (p : Pg) : Prop := ¬ p.bad ∧ p.segs.length ≤ 255 ∧ (p.more = true → p.parts ≠ []) ∧ 0 ≤ p.flags ∧ p.flags ≤ 7
theorem Pg.okW.good {p : Pg} (h : p.okW) (h1 : p.ser < 4294967296) (h2 : p.seq < 4294967296) (h3 : p.gran < 18446744073709551616) : p.good := by
 obtain ⟨a, b, c, d, e⟩ := h
 refine ⟨h1, h2, h3, d, e, b, fun hm => ⟨fun hn => c hm (List.map_eq_nil_iff.1 hn), fun x hx => Classical.byContradiction fun hc => a ⟨hm, x, hx, hc⟩⟩⟩
structure Pg.sane (p : Pg) : Prop where
 ser : p.ser < 4294967296
 seq : p.seq < 4294967296
 gran : p.gran < 18446744073709551616
 cnt : p.parts.length ≤ 1099511627776
 siz : psz p.parts ≤ 1099511627776
 sgs : p.segs.length ≤ 1099511627776
theorem psz_pts (l : List ByteArray) : (l.map bytesOf).flatten.length = psz l := by
 induction l with
 | nil => rfl
 | cons x r ih => rw [List.map_cons, List.flatten_cons, List.length_append, ih, bytesOf_len, psz]
theorem pageTextW (w0 : World) {p : Pg} {v : Value} (hv : strsAt w0 v p.parts) (hsan : p.sane) :
   CallsA Tryz.prog w0 45 [.a (pgA p v)] [] fun r H =>
     (p.okW ∧ r = .t [.c (.val (.string (strOf (pgEnc p)))), .c (.val (.bool true))] ∧ H = []) ∨
     (¬ p.okW ∧ r = .t [.c (.val (.string (ByteArray.mk #[]))), .c (.val (.bool false))] ∧ H = []) := by
 have hsg := segmentsW w0 hv hsan.cnt (fun s hs => Nat.le_trans (psz_mem hs) hsan.siz) hsan.sgs
 refine callsA_of_ev c45_ ?_
 obtain ⟨S, hS⟩ : ∃ S, S = lenI p.segs := ⟨_, rfl⟩
 rw [← hS] at hsg
 conv => whnf
 refine cL0 hsg ?_
 rintro _ _ (⟨hb, rfl, rfl⟩ | ⟨hb, b, hbb, rfl, rfl⟩)
 · conv => whnf
   refine Or.inl ?_
   conv => whnf
   refine ⟨fun _ => ?_, fun g => zT g⟩
   conv => whnf
   exact Or.inr ⟨[], .t [.c (.val (.string (ByteArray.mk #[]))), .c (.val (.bool false))], [], ⟨rfl, trivial, rfl⟩, rfl, .inr ⟨fun h => h.1 hb, rfl, rfl⟩⟩
 have w1 : ∀ (h0 : 0 ≤ p.flags) (h7 : p.flags ≤ 7), IntKind.u8.wrap p.flags = p.flags := fun h0 h7 => by rw [IntKind.wrap_u8]; omega
 have w2 : IntKind.u64.wrap ((p.ser : Nat) : Int) = ((p.ser : Nat) : Int) := nwrap64 (by have := hsan.ser; omega)
 have w3 : IntKind.u64.wrap ((p.seq : Nat) : Int) = ((p.seq : Nat) : Int) := nwrap64 (by have := hsan.seq; omega)
 have hoS : (ByteArray.mk #[79, 103, 103, 83, 0]).size = 5 := rfl
 have hfin : some (AV.o (.c (.val (.string (ByteArray.mk #[79, 103, 103, 83, 0] ++ strOf [p.flags] ++ strOf (leL p.gran 8) ++ strOf (leL p.ser 4) ++ strOf (leL p.seq 4)))))) = some (AV.o (.c (.val (.string (strOf (pgHd p)))))) := by
   unfold pgHd
   rw [strOf_add, strOf_add, strOf_add, strOf_add]
   rfl
 cases S with
 | nil =>
   conv => whnf
   refine Or.inl ?_
   conv => whnf
   refine ⟨fun g1 => ?_, fun g1 => ?_⟩
   · have g1 : b = false := by simpa using g1
     conv => whnf
     exact Or.inr ⟨[], .t [.c (.val (.string (ByteArray.mk #[]))), .c (.val (.bool false))], [], ⟨rfl, trivial, rfl⟩, rfl, .inr ⟨fun h => by rw [g1] at hbb; exact Bool.noConfusion (hbb.2 ⟨h.2.1, h.2.2.1⟩), rfl, rfl⟩⟩
   have g1 : b = true := by simpa using g1
   conv => whnf
   refine ⟨fun g2 => ?_, fun g2 => ?_⟩
   · have g2 : p.flags < 0 := of_decide_eq_true g2
     conv => whnf
     exact Or.inr ⟨[], .t [.c (.val (.string (ByteArray.mk #[]))), .c (.val (.bool false))], [], ⟨rfl, trivial, rfl⟩, rfl, .inr ⟨fun h => absurd h.2.2.2.1 (by omega), rfl, rfl⟩⟩
   have g2 : ¬ p.flags < 0 := of_decide_eq_false g2
   conv => whnf
   refine ⟨fun g3 => ?_, fun g3 => ?_⟩
   · have g3 : p.flags > 7 := of_decide_eq_true g3
     conv => whnf
     exact Or.inr ⟨[], .t [.c (.val (.string (ByteArray.mk #[]))), .c (.val (.bool false))], [], ⟨rfl, trivial, rfl⟩, rfl, .inr ⟨fun h => absurd h.2.2.2.2 (by omega), rfl, rfl⟩⟩
   have g3 : ¬ p.flags > 7 := of_decide_eq_false g3
   have hok : p.okW := ⟨hb, (hbb.1 g1).1, (hbb.1 g1).2, by omega, by omega⟩
   have hgood := hok.good hsan.ser hsan.seq hsan.gran
   have hcnt := hgood.cnt
   have w1 := w1 (by omega) (by omega)
   conv => whnf
   -- []: S as a pattern, [0]: renaming, ⟨rfl, ⟨rfl, rfl, trivial⟩, rfl⟩ its proof for H, rfl the second string's source
   refine Or.inr ⟨Unit, fun _ => ⟨[(1, .o (.c (.ptr 0 0))), (4, .o (.c (szV 1 []))), (6, .o (.c (.val (.string (strOf (pgHd p))))))], .cells 57 (pgA p v) :: szH []⟩, ?_, fun _ => ?_⟩
   · conv => whnf
     rw [w1, w2, w3]
     refine ⟨?_, ?_⟩
     · conv => whnf
       refine ⟨?_, ?_⟩
       · conv => whnf
         repeat' (first | exact trivial | exact ⟨rfl, rfl⟩ | exact ⟨trivial, [p.flags], ⟨rfl, rfl, rfl⟩, rfl, rfl⟩ | refine ⟨?_, ?_⟩)
       conv => whnf
       refine ⟨trivial, [p.flags], ⟨rfl, rfl, rfl⟩, ?_⟩
       conv => whnf
       refine ⟨?_, ?_⟩
       · simp only [strOf_siz, List.length_cons, List.length_nil, hoS]
         decide
       conv => whnf
       refine cL0 (leastW w0 p.gran (size := 8) (by decide)) ?_
       rintro _ _ ⟨rfl, rfl⟩
       refine ⟨?_, ?_⟩
       · conv => whnf
         repeat' (first | exact trivial | exact ⟨rfl, rfl⟩ | exact ⟨trivial, [p.flags], ⟨rfl, rfl, rfl⟩, rfl, rfl⟩ | refine ⟨?_, ?_⟩)
       conv => whnf
       refine ⟨?_, ?_⟩
       · simp only [ByteArray.size_append, strOf_siz, leL_len, List.length_cons, List.length_nil, hoS]
         decide
       conv => whnf
       refine cL0 (leastW w0 p.ser (size := 4) (by decide)) ?_
       rintro _ _ ⟨rfl, rfl⟩
       refine ⟨?_, ?_⟩
       · conv => whnf
         repeat' (first | exact trivial | exact ⟨rfl, rfl⟩ | exact ⟨trivial, [p.flags], ⟨rfl, rfl, rfl⟩, rfl, rfl⟩ | refine ⟨?_, ?_⟩)
       conv => whnf
       refine ⟨?_, ?_⟩
       · simp only [ByteArray.size_append, strOf_siz, leL_len, List.length_cons, List.length_nil, hoS]
         decide
       conv => whnf
       refine cL0 (leastW w0 p.seq (size := 4) (by decide)) ?_
       rintro _ _ ⟨rfl, rfl⟩
       refine ⟨?_, ?_⟩
       · conv => whnf
         repeat' (first | exact trivial | exact ⟨rfl, rfl⟩ | exact ⟨trivial, [p.flags], ⟨rfl, rfl, rfl⟩, rfl, rfl⟩ | refine ⟨?_, ?_⟩)
       conv => whnf
       refine ⟨?_, ?_⟩
       · simp only [ByteArray.size_append, strOf_siz, leL_len, List.length_cons, List.length_nil, hoS]
         decide
       conv => whnf
       exact ⟨(), [0], ⟨rfl, ⟨rfl, rfl, trivial⟩, rfl⟩, rfl, rfl, hfin, trivial⟩
     · conv => whnf
       refine cL0 (leastW w0 p.gran (size := 8) (by decide)) ?_
       rintro _ _ ⟨rfl, rfl⟩
       refine ⟨?_, ?_⟩
       · conv => whnf
         repeat' (first | exact trivial | exact ⟨rfl, rfl⟩ | exact ⟨trivial, [p.flags], ⟨rfl, rfl, rfl⟩, rfl, rfl⟩ | refine ⟨?_, ?_⟩)
       conv => whnf
       refine ⟨?_, ?_⟩
       · conv => whnf
         refine ⟨?_, ?_⟩
         · conv => whnf
           repeat' (first | exact trivial | exact ⟨rfl, rfl⟩ | exact ⟨trivial, [p.flags], ⟨rfl, rfl, rfl⟩, rfl, rfl⟩ | refine ⟨?_, ?_⟩)
         conv => whnf
         refine ⟨trivial, [p.flags], ⟨rfl, rfl, rfl⟩, ?_⟩
         conv => whnf
         refine ⟨?_, ?_⟩
         · simp only [strOf_siz, List.length_cons, List.length_nil, hoS]
           decide
         conv => whnf
         refine ⟨?_, ?_⟩
         · simp only [ByteArray.size_append, strOf_siz, leL_len, List.length_cons, List.length_nil, hoS]
           decide
         conv => whnf
         refine cL0 (leastW w0 p.ser (size := 4) (by decide)) ?_
         rintro _ _ ⟨rfl, rfl⟩
         refine ⟨?_, ?_⟩
         · conv => whnf
           repeat' (first | exact trivial | exact ⟨rfl, rfl⟩ | exact ⟨trivial, [p.flags], ⟨rfl, rfl, rfl⟩, rfl, rfl⟩ | refine ⟨?_, ?_⟩)
         conv => whnf
         refine ⟨?_, ?_⟩
         · simp only [ByteArray.size_append, strOf_siz, leL_len, List.length_cons, List.length_nil, hoS]
           decide
         conv => whnf
         refine cL0 (leastW w0 p.seq (size := 4) (by decide)) ?_
         rintro _ _ ⟨rfl, rfl⟩
         refine ⟨?_, ?_⟩
         · conv => whnf
           repeat' (first | exact trivial | exact ⟨rfl, rfl⟩ | exact ⟨trivial, [p.flags], ⟨rfl, rfl, rfl⟩, rfl, rfl⟩ | refine ⟨?_, ?_⟩)
         conv => whnf
         refine ⟨?_, ?_⟩
         · simp only [ByteArray.size_append, strOf_siz, leL_len, List.length_cons, List.length_nil, hoS]
           decide
         conv => whnf
         exact ⟨(), [0], ⟨rfl, ⟨rfl, rfl, trivial⟩, rfl⟩, rfl, rfl, hfin, trivial⟩
       · conv => whnf
         refine cL0 (leastW w0 p.ser (size := 4) (by decide)) ?_
         rintro _ _ ⟨rfl, rfl⟩
         refine ⟨?_, ?_⟩
         · conv => whnf
           repeat' (first | exact trivial | exact ⟨rfl, rfl⟩ | exact ⟨trivial, [p.flags], ⟨rfl, rfl, rfl⟩, rfl, rfl⟩ | refine ⟨?_, ?_⟩)
         conv => whnf
         refine ⟨?_, ?_⟩
         · conv => whnf
           refine ⟨?_, ?_⟩
           · conv => whnf
             repeat' (first | exact trivial | exact ⟨rfl, rfl⟩ | exact ⟨trivial, [p.flags], ⟨rfl, rfl, rfl⟩, rfl, rfl⟩ | refine ⟨?_, ?_⟩)
           conv => whnf
           refine ⟨trivial, [p.flags], ⟨rfl, rfl, rfl⟩, ?_⟩
           conv => whnf
           refine ⟨?_, ?_⟩
           · simp only [strOf_siz, List.length_cons, List.length_nil, hoS]
             decide
           conv => whnf
           refine ⟨?_, ?_⟩
           · simp only [ByteArray.size_append, strOf_siz, leL_len, List.length_cons, List.length_nil, hoS]
             decide
           conv => whnf
           refine ⟨?_, ?_⟩
           · simp only [ByteArray.size_append, strOf_siz, leL_len, List.length_cons, List.length_nil, hoS]
             decide
           conv => whnf
           refine cL0 (leastW w0 p.seq (size := 4) (by decide)) ?_
           rintro _ _ ⟨rfl, rfl⟩
           refine ⟨?_, ?_⟩
           · conv => whnf
             repeat' (first | exact trivial | exact ⟨rfl, rfl⟩ | exact ⟨trivial, [p.flags], ⟨rfl, rfl, rfl⟩, rfl, rfl⟩ | refine ⟨?_, ?_⟩)
           conv => whnf
           refine ⟨?_, ?_⟩
           · simp only [ByteArray.size_append, strOf_siz, leL_len, List.length_cons, List.length_nil, hoS]
             decide
           conv => whnf
           exact ⟨(), [0], ⟨rfl, ⟨rfl, rfl, trivial⟩, rfl⟩, rfl, rfl, hfin, trivial⟩
         · conv => whnf
           refine cL0 (leastW w0 p.seq (size := 4) (by decide)) ?_
           rintro _ _ ⟨rfl, rfl⟩
           refine ⟨?_, ?_⟩
           · conv => whnf
             repeat' (first | exact trivial | exact ⟨rfl, rfl⟩ | exact ⟨trivial, [p.flags], ⟨rfl, rfl, rfl⟩, rfl, rfl⟩ | refine ⟨?_, ?_⟩)
           conv => whnf
           refine ⟨?_, ?_⟩
           · conv => whnf
             repeat' (first | exact trivial | exact ⟨rfl, rfl⟩ | exact ⟨trivial, [p.flags], ⟨rfl, rfl, rfl⟩, rfl, rfl⟩ | refine ⟨?_, ?_⟩)
           conv => whnf
           refine ⟨trivial, [p.flags], ⟨rfl, rfl, rfl⟩, ?_⟩
           conv => whnf
           refine ⟨?_, ?_⟩
           · simp only [strOf_siz, List.length_cons, List.length_nil, hoS]
             decide
           conv => whnf
           refine ⟨?_, ?_⟩
           · simp only [ByteArray.size_append, strOf_siz, leL_len, List.length_cons, List.length_nil, hoS]
             decide
           conv => whnf
           refine ⟨?_, ?_⟩
           · simp only [ByteArray.size_append, strOf_siz, leL_len, List.length_cons, List.length_nil, hoS]
             decide
           conv => whnf
           refine ⟨?_, ?_⟩
           · simp only [ByteArray.size_append, strOf_siz, leL_len, List.length_cons, List.length_nil, hoS]
             decide
           conv => whnf
           exact ⟨(), [0], ⟨rfl, ⟨rfl, rfl, trivial⟩, rfl⟩, rfl, rfl, hfin, trivial⟩
   have hSl : ([] : List Int).length = p.segs.length := by
     rw [hS]
     unfold lenI
     rw [List.length_map]
   have w4 : IntKind.u8.wrap ((([] : List Int).length : Nat) : Int) = ((([] : List Int).length : Nat) : Int) := nwrap8 (by omega)
   conv => whnf
   refine ⟨trivial, [IntKind.u8.wrap ((([] : List Int).length : Nat) : Int)], ⟨rfl, rfl, rfl⟩, ?_⟩
   conv => whnf
   refine ⟨trivial, [], rfl, ?_⟩
   conv => whnf
   refine ⟨by rw [strOf_siz, strOf_siz]; simp only [List.length_cons, List.length_nil] at hSl ⊢; omega, ?_⟩
   conv => whnf
   have hX0 : strOf [IntKind.u8.wrap ((([] : List Int).length : Nat) : Int)] ++ strOf [] = strOf (([((([] : List Int).length : Nat) : Int)] ++ []) ++ (p.pts.take 0).flatten) := by
     rw [w4, ← strOf_add]
     exact congrArg strOf (List.append_nil _).symm
   rw [hX0]
   refine Or.inr ⟨Unit, fun _ => ⟨[(1, .o (.c (.ptr 0 0))), (6, .o (.c (.val (.string (strOf (pgHd p)))))), (7, .o (.c (.val (.string (strOf (([((([] : List Int).length : Nat) : Int)] ++ []) ++ p.pts.flatten))))))], [.cells 57 (pgA p v)]⟩, ?_, fun _ => ?_⟩
   · rcases hv with ⟨rfl, hp⟩ | ⟨a, c, rfl, hc, hb⟩
     · conv => whnf
       refine ⟨Unit, fun _ => ⟨[(1, .o (.c (.ptr 0 0))), (6, .o (.c (.val (.string (strOf (pgHd p)))))), (7, .o (.c (.val (.string (strOf (([((([] : List Int).length : Nat) : Int)] ++ []) ++ (p.pts.take 0).flatten)))))), (57, .o (.c (.val (.int .i64 ((0 : Nat) : Int))))), (58, .o (.c (.val (.int .i64 ((0 : Nat) : Int)))))], [.cells 57 (pgA p (.slice none 0 0))]⟩, fun _ => 0, ⟨(), [0], ⟨rfl, ⟨rfl, rfl, trivial⟩, rfl⟩, rfl, rfl, rfl, rfl, rfl, trivial⟩, fun _ => ?_⟩
       conv => whnf
       refine ⟨fun g => zF g, fun _ => ?_⟩
       conv => whnf
       refine ⟨(), [0], ⟨rfl, ⟨rfl, rfl, trivial⟩, rfl⟩, rfl, rfl, ?_, trivial⟩
       have hpn : p.pts = [] := by unfold Pg.pts; rw [hp]; rfl
       rw [hpn]
       rfl
     · conv => whnf
       refine ⟨{j : Nat // j ≤ p.parts.length}, fun ⟨j, _⟩ => ⟨[(1, .o (.c (.ptr 0 0))), (6, .o (.c (.val (.string (strOf (pgHd p)))))), (7, .o (.c (.val (.string (strOf (([((([] : List Int).length : Nat) : Int)] ++ []) ++ (p.pts.take j).flatten)))))), (56, .o (.c (.val (.slice (some a) p.parts.length c)))), (57, .o (.c (.val (.int .i64 (p.parts.length : Nat))))), (58, .o (.c (.val (.int .i64 (j : Nat)))))], [.cells 57 (pgA p (.slice (some a) p.parts.length c))]⟩, fun j => p.parts.length - j.1, ⟨⟨0, Nat.zero_le _⟩, [0], ⟨rfl, ⟨rfl, rfl, trivial⟩, rfl⟩, rfl, rfl, rfl, rfl, rfl, rfl, trivial⟩, fun ⟨j, hj⟩ => ?_⟩
       conv => whnf
       refine ⟨fun g => ?_, fun g => ?_⟩
       · have g : j < p.parts.length := lt_t g
         obtain ⟨s, hsx⟩ : ∃ s, p.parts[j]? = some s := ⟨_, List.getElem?_eq_getElem g⟩
         have hpt : p.pts[j]? = some (bytesOf s) := by unfold Pg.pts; rw [List.getElem?_map, hsx]; rfl
         have hss : s.size ≤ psz p.parts := psz_mem (List.mem_of_getElem? hsx)
         have hfl : (p.pts.take (j + 1)).flatten = (p.pts.take j).flatten ++ bytesOf s := by
           rw [List.take_add_one, hpt, List.flatten_append]
           simp
         have hfz : (p.pts.take j).flatten.length ≤ psz p.parts := by
           have h1 : p.pts.flatten.length = psz p.parts := psz_pts p.parts
           have h2 : p.pts.flatten = (p.pts.take j).flatten ++ (p.pts.drop j).flatten := by rw [← List.flatten_append, List.take_append_drop]
           rw [h2, List.length_append] at h1
           omega
         conv => whnf
         refine ⟨⟨Int.natCast_nonneg j, Int.ofNat_lt.2 g⟩, ?_⟩
         conv => whnf
         refine ⟨.string s, ?_⟩
         conv => whnf
         refine ⟨hb j s hsx, ?_⟩
         conv => whnf
         refine ⟨rfl, ?_⟩
         conv => whnf
         refine ⟨by rw [strOf_siz, List.length_append]; have := hsan.siz; simp only [List.length_append, List.length_cons, List.length_nil] at hSl ⊢; omega, ?_⟩
         conv => whnf
         refine ⟨⟨j + 1, g⟩, ⟨[0], ⟨rfl, ⟨rfl, rfl, trivial⟩, rfl⟩, rfl, rfl, ?_, rfl, rfl, eq_i64 (by rw [nadd, nwrapi (by have := hsan.cnt; omega)]), trivial⟩, by show p.parts.length - (j + 1) < p.parts.length - j; omega⟩
         show some (AV.o (.c (.val (.string (strOf (([((([] : List Int).length : Nat) : Int)] ++ []) ++ (p.pts.take j).flatten) ++ s))))) = some (AV.o (.c (.val (.string (strOf (([((([] : List Int).length : Nat) : Int)] ++ []) ++ (p.pts.take (j + 1)).flatten))))))
         rw [hfl, ← List.append_assoc, strOf_add _ (bytesOf s), str_bytes]
       · have g : p.parts.length ≤ j := lt_f g
         have hall : p.pts.take j = p.pts := List.take_of_length_le (by unfold Pg.pts; rw [List.length_map]; exact g)
         conv => whnf
         rw [hall]
         exact ⟨(), [0], ⟨rfl, ⟨rfl, rfl, trivial⟩, rfl⟩, rfl, rfl, rfl, trivial⟩
   have hT : strOf (([((([] : List Int).length : Nat) : Int)] ++ []) ++ p.pts.flatten) = strOf (pgTl p) := by
     unfold pgTl
     rw [hS, show ((lenI p.segs).length : Nat) = p.segs.length from by unfold lenI; rw [List.length_map]]
   rw [hT]
   have hfz : p.pts.flatten.length ≤ 1099511627776 := by
     have h1 : p.pts.flatten.length = psz p.parts := psz_pts p.parts
     have := hsan.siz
     omega
   have hTl : (pgTl p).length ≤ 1099511627776 + 256 := by
     unfold pgTl lenI
     simp only [List.length_append, List.length_cons, List.length_nil, List.length_map]
     omega
   conv => whnf
   refine ⟨by rw [strOf_siz, pgHd_len]; decide, ?_⟩
   conv => whnf
   refine ⟨by rw [ByteArray.size_append, strOf_siz, strOf_siz, pgHd_len, show (ByteArray.mk #[0, 0, 0, 0]).size = 4 from rfl]; omega, ?_⟩
   conv => whnf
   have hsum : crcS (bytesOf (strOf (pgHd p) ++ ByteArray.mk #[0, 0, 0, 0] ++ strOf (pgTl p))) = pgSum p := by
     rw [bytes_add, bytes_add, bytes_str (pgHd_byt hgood), bytes_str (pgTl_byt hgood)]
     rfl
   have hsl := pgSum_lt hgood
   refine cL0 (oggSumW w0 (b := strOf (pgHd p) ++ ByteArray.mk #[0, 0, 0, 0] ++ strOf (pgTl p)) (by rw [ByteArray.size_append, ByteArray.size_append, strOf_siz, strOf_siz, pgHd_len, show (ByteArray.mk #[0, 0, 0, 0]).size = 4 from rfl]; omega)) ?_
   rw [hsum]
   rintro _ _ ⟨rfl, rfl⟩
   conv => whnf
   rw [nwrap64 (n := pgSum p) (by omega)]
   refine cL0 (leastW w0 (pgSum p) (size := 4) (by decide)) ?_
   rintro _ _ ⟨rfl, rfl⟩
   conv => whnf
   refine ⟨by rw [strOf_siz, strOf_siz, pgHd_len, leL_len]; decide, ?_⟩
   conv => whnf
   refine ⟨by rw [ByteArray.size_append, strOf_siz, strOf_siz, strOf_siz, pgHd_len, leL_len]; omega, ?_⟩
   conv => whnf
   rw [show strOf (pgHd p) ++ strOf (leL (pgSum p) 4) ++ strOf (pgTl p) = strOf (pgEnc p) by rw [← strOf_add, ← strOf_add]; rfl]
   exact Or.inr ⟨[], .t [.c (.val (.string (strOf (pgEnc p)))), .c (.val (.bool true))], [], ⟨rfl, trivial, rfl⟩, rfl, .inl ⟨hok, rfl, rfl⟩⟩
 | cons s0 sr =>
   conv => whnf
   refine Or.inl ?_
   conv => whnf
   refine ⟨fun g1 => ?_, fun g1 => ?_⟩
   · have g1 : b = false := by simpa using g1
     conv => whnf
     exact Or.inr ⟨[], .t [.c (.val (.string (ByteArray.mk #[]))), .c (.val (.bool false))], [], ⟨rfl, trivial, rfl⟩, rfl, .inr ⟨fun h => by rw [g1] at hbb; exact Bool.noConfusion (hbb.2 ⟨h.2.1, h.2.2.1⟩), rfl, rfl⟩⟩
   have g1 : b = true := by simpa using g1
   conv => whnf
   refine ⟨fun g2 => ?_, fun g2 => ?_⟩
   · have g2 : p.flags < 0 := of_decide_eq_true g2
     conv => whnf
     exact Or.inr ⟨[], .t [.c (.val (.string (ByteArray.mk #[]))), .c (.val (.bool false))], [], ⟨rfl, trivial, rfl⟩, rfl, .inr ⟨fun h => absurd h.2.2.2.1 (by omega), rfl, rfl⟩⟩
   have g2 : ¬ p.flags < 0 := of_decide_eq_false g2
   conv => whnf
   refine ⟨fun g3 => ?_, fun g3 => ?_⟩
   · have g3 : p.flags > 7 := of_decide_eq_true g3
     conv => whnf
     exact Or.inr ⟨[], .t [.c (.val (.string (ByteArray.mk #[]))), .c (.val (.bool false))], [], ⟨rfl, trivial, rfl⟩, rfl, .inr ⟨fun h => absurd h.2.2.2.2 (by omega), rfl, rfl⟩⟩
   have g3 : ¬ p.flags > 7 := of_decide_eq_false g3
   have hok : p.okW := ⟨hb, (hbb.1 g1).1, (hbb.1 g1).2, by omega, by omega⟩
   have hgood := hok.good hsan.ser hsan.seq hsan.gran
   have hcnt := hgood.cnt
   have w1 := w1 (by omega) (by omega)
   conv => whnf
   -- (s0 :: sr): S as a pattern, [0, 1]: renaming, ⟨rfl, ⟨rfl, rfl, rfl, rfl, trivial⟩, rfl⟩ its proof for H, ⟨rfl, Nat.le_refl _, rfl, by rw [List.take_of_length_le (Nat.le_refl _)]⟩ the second string's source
   refine Or.inr ⟨Unit, fun _ => ⟨[(1, .o (.c (.ptr 0 0))), (4, .o (.c (szV 1 (s0 :: sr)))), (6, .o (.c (.val (.string (strOf (pgHd p))))))], .cells 57 (pgA p v) :: szH (s0 :: sr)⟩, ?_, fun _ => ?_⟩
   · conv => whnf
     rw [w1, w2, w3]
     refine ⟨?_, ?_⟩
     · conv => whnf
       refine ⟨?_, ?_⟩
       · conv => whnf
         repeat' (first | exact trivial | exact ⟨rfl, rfl⟩ | exact ⟨trivial, [p.flags], ⟨rfl, rfl, rfl⟩, rfl, rfl⟩ | refine ⟨?_, ?_⟩)
       conv => whnf
       refine ⟨trivial, [p.flags], ⟨rfl, rfl, rfl⟩, ?_⟩
       conv => whnf
       refine ⟨?_, ?_⟩
       · simp only [strOf_siz, List.length_cons, List.length_nil, hoS]
         decide
       conv => whnf
       refine cL0 (leastW w0 p.gran (size := 8) (by decide)) ?_
       rintro _ _ ⟨rfl, rfl⟩
       refine ⟨?_, ?_⟩
       · conv => whnf
         repeat' (first | exact trivial | exact ⟨rfl, rfl⟩ | exact ⟨trivial, [p.flags], ⟨rfl, rfl, rfl⟩, rfl, rfl⟩ | refine ⟨?_, ?_⟩)
       conv => whnf
       refine ⟨?_, ?_⟩
       · simp only [ByteArray.size_append, strOf_siz, leL_len, List.length_cons, List.length_nil, hoS]
         decide
       conv => whnf
       refine cL0 (leastW w0 p.ser (size := 4) (by decide)) ?_
       rintro _ _ ⟨rfl, rfl⟩
       refine ⟨?_, ?_⟩
       · conv => whnf
         repeat' (first | exact trivial | exact ⟨rfl, rfl⟩ | exact ⟨trivial, [p.flags], ⟨rfl, rfl, rfl⟩, rfl, rfl⟩ | refine ⟨?_, ?_⟩)
       conv => whnf
       refine ⟨?_, ?_⟩
       · simp only [ByteArray.size_append, strOf_siz, leL_len, List.length_cons, List.length_nil, hoS]
         decide
       conv => whnf
       refine cL0 (leastW w0 p.seq (size := 4) (by decide)) ?_
       rintro _ _ ⟨rfl, rfl⟩
       refine ⟨?_, ?_⟩
       · conv => whnf
         repeat' (first | exact trivial | exact ⟨rfl, rfl⟩ | exact ⟨trivial, [p.flags], ⟨rfl, rfl, rfl⟩, rfl, rfl⟩ | refine ⟨?_, ?_⟩)
       conv => whnf
       refine ⟨?_, ?_⟩
       · simp only [ByteArray.size_append, strOf_siz, leL_len, List.length_cons, List.length_nil, hoS]
         decide
       conv => whnf
       exact ⟨(), [0, 1], ⟨rfl, ⟨rfl, rfl, rfl, rfl, trivial⟩, rfl⟩, rfl, rfl, hfin, trivial⟩
     · conv => whnf
       refine cL0 (leastW w0 p.gran (size := 8) (by decide)) ?_
       rintro _ _ ⟨rfl, rfl⟩
       refine ⟨?_, ?_⟩
       · conv => whnf
         repeat' (first | exact trivial | exact ⟨rfl, rfl⟩ | exact ⟨trivial, [p.flags], ⟨rfl, rfl, rfl⟩, rfl, rfl⟩ | refine ⟨?_, ?_⟩)
       conv => whnf
       refine ⟨?_, ?_⟩
       · conv => whnf
         refine ⟨?_, ?_⟩
         · conv => whnf
           repeat' (first | exact trivial | exact ⟨rfl, rfl⟩ | exact ⟨trivial, [p.flags], ⟨rfl, rfl, rfl⟩, rfl, rfl⟩ | refine ⟨?_, ?_⟩)
         conv => whnf
         refine ⟨trivial, [p.flags], ⟨rfl, rfl, rfl⟩, ?_⟩
         conv => whnf
         refine ⟨?_, ?_⟩
         · simp only [strOf_siz, List.length_cons, List.length_nil, hoS]
           decide
         conv => whnf
         refine ⟨?_, ?_⟩
         · simp only [ByteArray.size_append, strOf_siz, leL_len, List.length_cons, List.length_nil, hoS]
           decide
         conv => whnf
         refine cL0 (leastW w0 p.ser (size := 4) (by decide)) ?_
         rintro _ _ ⟨rfl, rfl⟩
         refine ⟨?_, ?_⟩
         · conv => whnf
           repeat' (first | exact trivial | exact ⟨rfl, rfl⟩ | exact ⟨trivial, [p.flags], ⟨rfl, rfl, rfl⟩, rfl, rfl⟩ | refine ⟨?_, ?_⟩)
         conv => whnf
         refine ⟨?_, ?_⟩
         · simp only [ByteArray.size_append, strOf_siz, leL_len, List.length_cons, List.length_nil, hoS]
           decide
         conv => whnf
         refine cL0 (leastW w0 p.seq (size := 4) (by decide)) ?_
         rintro _ _ ⟨rfl, rfl⟩
         refine ⟨?_, ?_⟩
         · conv => whnf
           repeat' (first | exact trivial | exact ⟨rfl, rfl⟩ | exact ⟨trivial, [p.flags], ⟨rfl, rfl, rfl⟩, rfl, rfl⟩ | refine ⟨?_, ?_⟩)
         conv => whnf
         refine ⟨?_, ?_⟩
         · simp only [ByteArray.size_append, strOf_siz, leL_len, List.length_cons, List.length_nil, hoS]
           decide
         conv => whnf
         exact ⟨(), [0, 1], ⟨rfl, ⟨rfl, rfl, rfl, rfl, trivial⟩, rfl⟩, rfl, rfl, hfin, trivial⟩
       · conv => whnf
         refine cL0 (leastW w0 p.ser (size := 4) (by decide)) ?_
         rintro _ _ ⟨rfl, rfl⟩
         refine ⟨?_, ?_⟩
         · conv => whnf
           repeat' (first | exact trivial | exact ⟨rfl, rfl⟩ | exact ⟨trivial, [p.flags], ⟨rfl, rfl, rfl⟩, rfl, rfl⟩ | refine ⟨?_, ?_⟩)
         conv => whnf
         refine ⟨?_, ?_⟩
         · conv => whnf
           refine ⟨?_, ?_⟩
           · conv => whnf
             repeat' (first | exact trivial | exact ⟨rfl, rfl⟩ | exact ⟨trivial, [p.flags], ⟨rfl, rfl, rfl⟩, rfl, rfl⟩ | refine ⟨?_, ?_⟩)
           conv => whnf
           refine ⟨trivial, [p.flags], ⟨rfl, rfl, rfl⟩, ?_⟩
           conv => whnf
           refine ⟨?_, ?_⟩
           · simp only [strOf_siz, List.length_cons, List.length_nil, hoS]
             decide
           conv => whnf
           refine ⟨?_, ?_⟩
           · simp only [ByteArray.size_append, strOf_siz, leL_len, List.length_cons, List.length_nil, hoS]
             decide
           conv => whnf
           refine ⟨?_, ?_⟩
           · simp only [ByteArray.size_append, strOf_siz, leL_len, List.length_cons, List.length_nil, hoS]
             decide
           conv => whnf
           refine cL0 (leastW w0 p.seq (size := 4) (by decide)) ?_
           rintro _ _ ⟨rfl, rfl⟩
           refine ⟨?_, ?_⟩
           · conv => whnf
             repeat' (first | exact trivial | exact ⟨rfl, rfl⟩ | exact ⟨trivial, [p.flags], ⟨rfl, rfl, rfl⟩, rfl, rfl⟩ | refine ⟨?_, ?_⟩)
           conv => whnf
           refine ⟨?_, ?_⟩
           · simp only [ByteArray.size_append, strOf_siz, leL_len, List.length_cons, List.length_nil, hoS]
             decide
           conv => whnf
           exact ⟨(), [0, 1], ⟨rfl, ⟨rfl, rfl, rfl, rfl, trivial⟩, rfl⟩, rfl, rfl, hfin, trivial⟩
         · conv => whnf
           refine cL0 (leastW w0 p.seq (size := 4) (by decide)) ?_
           rintro _ _ ⟨rfl, rfl⟩
           refine ⟨?_, ?_⟩
           · conv => whnf
             repeat' (first | exact trivial | exact ⟨rfl, rfl⟩ | exact ⟨trivial, [p.flags], ⟨rfl, rfl, rfl⟩, rfl, rfl⟩ | refine ⟨?_, ?_⟩)
           conv => whnf
           refine ⟨?_, ?_⟩
           · conv => whnf
             repeat' (first | exact trivial | exact ⟨rfl, rfl⟩ | exact ⟨trivial, [p.flags], ⟨rfl, rfl, rfl⟩, rfl, rfl⟩ | refine ⟨?_, ?_⟩)
           conv => whnf
           refine ⟨trivial, [p.flags], ⟨rfl, rfl, rfl⟩, ?_⟩
           conv => whnf
           refine ⟨?_, ?_⟩
           · simp only [strOf_siz, List.length_cons, List.length_nil, hoS]
             decide
           conv => whnf
           refine ⟨?_, ?_⟩
           · simp only [ByteArray.size_append, strOf_siz, leL_len, List.length_cons, List.length_nil, hoS]
             decide
           conv => whnf
           refine ⟨?_, ?_⟩
           · simp only [ByteArray.size_append, strOf_siz, leL_len, List.length_cons, List.length_nil, hoS]
             decide
           conv => whnf
           refine ⟨?_, ?_⟩
           · simp only [ByteArray.size_append, strOf_siz, leL_len, List.length_cons, List.length_nil, hoS]
             decide
           conv => whnf
           exact ⟨(), [0, 1], ⟨rfl, ⟨rfl, rfl, rfl, rfl, trivial⟩, rfl⟩, rfl, rfl, hfin, trivial⟩
   have hSl : ((s0 :: sr) : List Int).length = p.segs.length := by
     rw [hS]
     unfold lenI
     rw [List.length_map]
   have w4 : IntKind.u8.wrap ((((s0 :: sr) : List Int).length : Nat) : Int) = ((((s0 :: sr) : List Int).length : Nat) : Int) := nwrap8 (by omega)
   conv => whnf
   refine ⟨trivial, [IntKind.u8.wrap ((((s0 :: sr) : List Int).length : Nat) : Int)], ⟨rfl, rfl, rfl⟩, ?_⟩
   conv => whnf
   refine ⟨trivial, (s0 :: sr), ⟨rfl, Nat.le_refl _, rfl, by rw [List.take_of_length_le (Nat.le_refl _)]⟩, ?_⟩
   conv => whnf
   refine ⟨by rw [strOf_siz, strOf_siz]; simp only [List.length_cons, List.length_nil] at hSl ⊢; omega, ?_⟩
   conv => whnf
   have hX0 : strOf [IntKind.u8.wrap ((((s0 :: sr) : List Int).length : Nat) : Int)] ++ strOf (s0 :: sr) = strOf (([((((s0 :: sr) : List Int).length : Nat) : Int)] ++ (s0 :: sr)) ++ (p.pts.take 0).flatten) := by
     rw [w4, ← strOf_add]
     exact congrArg strOf (List.append_nil _).symm
   rw [hX0]
   refine Or.inr ⟨Unit, fun _ => ⟨[(1, .o (.c (.ptr 0 0))), (6, .o (.c (.val (.string (strOf (pgHd p)))))), (7, .o (.c (.val (.string (strOf (([((((s0 :: sr) : List Int).length : Nat) : Int)] ++ (s0 :: sr)) ++ p.pts.flatten))))))], [.cells 57 (pgA p v)]⟩, ?_, fun _ => ?_⟩
   · rcases hv with ⟨rfl, hp⟩ | ⟨a, c, rfl, hc, hb⟩
     · conv => whnf
       refine ⟨Unit, fun _ => ⟨[(1, .o (.c (.ptr 0 0))), (6, .o (.c (.val (.string (strOf (pgHd p)))))), (7, .o (.c (.val (.string (strOf (([((((s0 :: sr) : List Int).length : Nat) : Int)] ++ (s0 :: sr)) ++ (p.pts.take 0).flatten)))))), (57, .o (.c (.val (.int .i64 ((0 : Nat) : Int))))), (58, .o (.c (.val (.int .i64 ((0 : Nat) : Int)))))], [.cells 57 (pgA p (.slice none 0 0))]⟩, fun _ => 0, ⟨(), [0], ⟨rfl, ⟨rfl, rfl, trivial⟩, rfl⟩, rfl, rfl, rfl, rfl, rfl, trivial⟩, fun _ => ?_⟩
       conv => whnf
       refine ⟨fun g => zF g, fun _ => ?_⟩
       conv => whnf
       refine ⟨(), [0], ⟨rfl, ⟨rfl, rfl, trivial⟩, rfl⟩, rfl, rfl, ?_, trivial⟩
       have hpn : p.pts = [] := by unfold Pg.pts; rw [hp]; rfl
       rw [hpn]
       rfl
     · conv => whnf
       refine ⟨{j : Nat // j ≤ p.parts.length}, fun ⟨j, _⟩ => ⟨[(1, .o (.c (.ptr 0 0))), (6, .o (.c (.val (.string (strOf (pgHd p)))))), (7, .o (.c (.val (.string (strOf (([((((s0 :: sr) : List Int).length : Nat) : Int)] ++ (s0 :: sr)) ++ (p.pts.take j).flatten)))))), (56, .o (.c (.val (.slice (some a) p.parts.length c)))), (57, .o (.c (.val (.int .i64 (p.parts.length : Nat))))), (58, .o (.c (.val (.int .i64 (j : Nat)))))], [.cells 57 (pgA p (.slice (some a) p.parts.length c))]⟩, fun j => p.parts.length - j.1, ⟨⟨0, Nat.zero_le _⟩, [0], ⟨rfl, ⟨rfl, rfl, trivial⟩, rfl⟩, rfl, rfl, rfl, rfl, rfl, rfl, trivial⟩, fun ⟨j, hj⟩ => ?_⟩
       conv => whnf
       refine ⟨fun g => ?_, fun g => ?_⟩
       · have g : j < p.parts.length := lt_t g
         obtain ⟨s, hsx⟩ : ∃ s, p.parts[j]? = some s := ⟨_, List.getElem?_eq_getElem g⟩
         have hpt : p.pts[j]? = some (bytesOf s) := by unfold Pg.pts; rw [List.getElem?_map, hsx]; rfl
         have hss : s.size ≤ psz p.parts := psz_mem (List.mem_of_getElem? hsx)
         have hfl : (p.pts.take (j + 1)).flatten = (p.pts.take j).flatten ++ bytesOf s := by
           rw [List.take_add_one, hpt, List.flatten_append]
           simp
         have hfz : (p.pts.take j).flatten.length ≤ psz p.parts := by
           have h1 : p.pts.flatten.length = psz p.parts := psz_pts p.parts
           have h2 : p.pts.flatten = (p.pts.take j).flatten ++ (p.pts.drop j).flatten := by rw [← List.flatten_append, List.take_append_drop]
           rw [h2, List.length_append] at h1
           omega
         conv => whnf
         refine ⟨⟨Int.natCast_nonneg j, Int.ofNat_lt.2 g⟩, ?_⟩
         conv => whnf
         refine ⟨.string s, ?_⟩
         conv => whnf
         refine ⟨hb j s hsx, ?_⟩
         conv => whnf
         refine ⟨rfl, ?_⟩
         conv => whnf
         refine ⟨by rw [strOf_siz, List.length_append]; have := hsan.siz; simp only [List.length_append, List.length_cons, List.length_nil] at hSl ⊢; omega, ?_⟩
         conv => whnf
         refine ⟨⟨j + 1, g⟩, ⟨[0], ⟨rfl, ⟨rfl, rfl, trivial⟩, rfl⟩, rfl, rfl, ?_, rfl, rfl, eq_i64 (by rw [nadd, nwrapi (by have := hsan.cnt; omega)]), trivial⟩, by show p.parts.length - (j + 1) < p.parts.length - j; omega⟩
         show some (AV.o (.c (.val (.string (strOf (([((((s0 :: sr) : List Int).length : Nat) : Int)] ++ (s0 :: sr)) ++ (p.pts.take j).flatten) ++ s))))) = some (AV.o (.c (.val (.string (strOf (([((((s0 :: sr) : List Int).length : Nat) : Int)] ++ (s0 :: sr)) ++ (p.pts.take (j + 1)).flatten))))))
         rw [hfl, ← List.append_assoc, strOf_add _ (bytesOf s), str_bytes]
       · have g : p.parts.length ≤ j := lt_f g
         have hall : p.pts.take j = p.pts := List.take_of_length_le (by unfold Pg.pts; rw [List.length_map]; exact g)
         conv => whnf
         rw [hall]
         exact ⟨(), [0], ⟨rfl, ⟨rfl, rfl, trivial⟩, rfl⟩, rfl, rfl, rfl, trivial⟩
   have hT : strOf (([((((s0 :: sr) : List Int).length : Nat) : Int)] ++ (s0 :: sr)) ++ p.pts.flatten) = strOf (pgTl p) := by
     unfold pgTl
     rw [hS, show ((lenI p.segs).length : Nat) = p.segs.length from by unfold lenI; rw [List.length_map]]
   rw [hT]
   have hfz : p.pts.flatten.length ≤ 1099511627776 := by
     have h1 : p.pts.flatten.length = psz p.parts := psz_pts p.parts
     have := hsan.siz
     omega
   have hTl : (pgTl p).length ≤ 1099511627776 + 256 := by
     unfold pgTl lenI
     simp only [List.length_append, List.length_cons, List.length_nil, List.length_map]
     omega
   conv => whnf
   refine ⟨by rw [strOf_siz, pgHd_len]; decide, ?_⟩
   conv => whnf
   refine ⟨by rw [ByteArray.size_append, strOf_siz, strOf_siz, pgHd_len, show (ByteArray.mk #[0, 0, 0, 0]).size = 4 from rfl]; omega, ?_⟩
   conv => whnf
   have hsum : crcS (bytesOf (strOf (pgHd p) ++ ByteArray.mk #[0, 0, 0, 0] ++ strOf (pgTl p))) = pgSum p := by
     rw [bytes_add, bytes_add, bytes_str (pgHd_byt hgood), bytes_str (pgTl_byt hgood)]
     rfl
   have hsl := pgSum_lt hgood
   refine cL0 (oggSumW w0 (b := strOf (pgHd p) ++ ByteArray.mk #[0, 0, 0, 0] ++ strOf (pgTl p)) (by rw [ByteArray.size_append, ByteArray.size_append, strOf_siz, strOf_siz, pgHd_len, show (ByteArray.mk #[0, 0, 0, 0]).size = 4 from rfl]; omega)) ?_
   rw [hsum]
   rintro _ _ ⟨rfl, rfl⟩
   conv => whnf
   rw [nwrap64 (n := pgSum p) (by omega)]
   refine cL0 (leastW w0 (pgSum p) (size := 4) (by decide)) ?_
   rintro _ _ ⟨rfl, rfl⟩
   conv => whnf
   refine ⟨by rw [strOf_siz, strOf_siz, pgHd_len, leL_len]; decide, ?_⟩
   conv => whnf
   refine ⟨by rw [ByteArray.size_append, strOf_siz, strOf_siz, strOf_siz, pgHd_len, leL_len]; omega, ?_⟩
   conv => whnf
   rw [show strOf (pgHd p) ++ strOf (leL (pgSum p) 4) ++ strOf (pgTl p) = strOf (pgEnc p) by rw [← strOf_add, ← strOf_add]; rfl]
   exact Or.inr ⟨[], .t [.c (.val (.string (strOf (pgEnc p)))), .c (.val (.bool true))], [], ⟨rfl, trivial, rfl⟩, rfl, .inl ⟨hok, rfl, rfl⟩⟩
end Go.Proofs.YtokkphocaloelaaGreatDoor

end
section
namespace Go.Proofs.YtokkphocaloelaaGreatDoor
open Go Go.Vc
set_option maxRecDepth 100000
set_option maxHeartbeats 8000000

structure pgCells (w0 : World) (b : Addr) (p : Pg) (v : Value) : Prop where
 c0 : w0.cell? (b.add 0) = some (.int .u32 (p.ser : Nat))
 c1 : w0.cell? (b.add 1) = some (.int .u32 (p.seq : Nat))
 c2 : w0.cell? (b.add 2) = some (.int .u64 (p.gran : Nat))
 c3 : w0.cell? (b.add 3) = some (.int .i64 p.flags)
 c4 : w0.cell? (b.add 4) = some v
 c5 : w0.cell? (b.add 5) = some (.bool p.more)
 one : v.oneCell' = true
 str : strsAt w0 v p.parts
 fit : p.ser < 4294967296 ∧ p.seq < 4294967296 ∧ p.gran < 18446744073709551616 ∧ -9223372036854775808 ≤ p.flags ∧ p.flags < 9223372036854775808
def pgsAt (w0 : World) (v : Value) (xs : List (Pg × Value)) : Prop :=
 (v = .slice none 0 0 ∧ xs = []) ∨ ∃ a c, v = .slice (some a) xs.length c ∧ xs.length ≤ c ∧ ∀ (i : Nat) x, xs[i]? = some x → pgCells w0 (a.add (i * 6)) x.1 x.2
def wtx (xs : List (Pg × Value)) : Nat := wts (xs.map Prod.fst)
theorem wts_mem {l : List Pg} {p : Pg} (h : p ∈ l) : p.wt ≤ wts l := by
 induction l with
 | nil => cases h
 | cons x r ih =>
   rcases List.mem_cons.1 h with rfl | h
   · exact Nat.le_add_right _ _
   · exact Nat.le_trans (ih h) (Nat.le_add_left _ _)
theorem wts_len (l : List Pg) : 27 * l.length ≤ wts l := by
 induction l with
 | nil => exact Nat.le_refl _
 | cons x r ih =>
   show 27 * (r.length + 1) ≤ x.wt + wts r
   unfold Pg.wt
   omega
theorem lace_len (more : Bool) : ∀ (ps : List (List Int)), (lace more ps).length ≤ ps.length + ps.flatten.length
 | [] => Nat.le_refl _
 | x :: r => by
   have ih := lace_len more r
   show (lc x ++ (if r = [] ∧ more = true then [] else [lr x]) ++ lace more r).length ≤ _
   have h1 : (lc x).length = x.length / 255 := by
     have : ∀ (n : Nat) (x : List Int), (full n x).length = n := by
       intro n
       induction n with
       | zero => intro x; rfl
       | succ n ih => intro x; show (full n _).length + 1 = n + 1; rw [ih]
     exact this _ _
   have h2 : (if r = [] ∧ more = true then [] else [lr x]).length ≤ 1 := by split <;> simp
   rw [List.length_append, List.length_append, h1, List.length_cons, List.flatten_cons, List.length_append]
   omega
theorem Pg.sane_of {p : Pg} (h : p.ser < 4294967296 ∧ p.seq < 4294967296 ∧ p.gran < 18446744073709551616) (hw : p.wt ≤ 1073741824) : p.sane := by
 unfold Pg.wt at hw
 have h1 : p.segs.length ≤ p.pts.length + p.pts.flatten.length := lace_len _ _
 have h2 : p.pts.flatten.length = psz p.parts := psz_pts _
 have h3 : p.pts.length = p.parts.length := List.length_map ..
 exact ⟨h.1, h.2.1, h.2.2, by omega, by omega, by omega⟩
def encAll (ps : List Pg) : List Int := (ps.map pgEnc).flatten
theorem pgEnc_size {p : Pg} (h : p.good) : (pgEnc p).length ≤ 282 + psz p.parts := by
 rw [pgEnc_len h, segs_flat h, show p.pts.flatten.length = psz p.parts from psz_pts _]
 have := h.cnt
 omega
theorem encAll_size : ∀ (ps : List Pg), (∀ p ∈ ps, p.good) → (encAll ps).length ≤ 12 * wts ps
 | [], _ => Nat.le_refl _
 | p :: r, h => by
   have h1 := pgEnc_size (h p (List.mem_cons_self ..))
   have h2 := encAll_size r fun q hq => h q (List.mem_cons_of_mem _ hq)
   show (pgEnc p ++ encAll r).length ≤ 12 * (p.wt + wts r)
   rw [List.length_append]
   unfold Pg.wt
   omega
theorem oggWriteW (w0 : World) {v : Value} {xs : List (Pg × Value)} (hv : pgsAt w0 v xs) (hw : wtx xs ≤ 1073741824) :
   CallsA Tryz.prog w0 21 [.c (.val v)] [] fun r H =>
     ((∀ x ∈ xs, x.1.okW) ∧ r = .t [.c (.val (.string (strOf (encAll (xs.map Prod.fst))))), .c (.val (.int .i64 ((1 : Nat) : Int)))] ∧ H = []) ∨
     ((∃ x ∈ xs, ¬ x.1.okW) ∧ r = .t [.c (.val (.string (ByteArray.mk #[]))), .c (.val (.int .i64 ((2 : Nat) : Int)))] ∧ H = []) := by
 have hlen := wts_len (xs.map Prod.fst)
 rw [List.length_map] at hlen
 unfold wtx at hw
 refine callsA_of_ev c21_ ?_
 conv => whnf
 refine Or.inr ⟨PLift (∀ x ∈ xs, x.1.okW), fun _ => ⟨[(4, .o (.c (.val (.string (strOf (encAll (xs.map Prod.fst)))))))], []⟩, ?_, fun ⟨hok⟩ => ?_⟩
 · rcases hv with ⟨rfl, rfl⟩ | ⟨a, c, rfl, hc, hb⟩
   · conv => whnf
     refine ⟨Unit, fun _ => ⟨[(4, .o (.c (.val (.string (ByteArray.mk #[]))))), (10, .o (.c (.val (.int .i64 ((0 : Nat) : Int))))), (11, .o (.c (.val (.int .i64 ((0 : Nat) : Int)))))], []⟩, fun _ => 0, ⟨(), [], ⟨rfl, trivial, rfl⟩, rfl, rfl, rfl, trivial⟩, fun _ => ?_⟩
     conv => whnf
     refine ⟨fun g => zF g, fun _ => ?_⟩
     conv => whnf
     exact ⟨⟨fun x hx => (List.not_mem_nil hx).elim⟩, [], ⟨rfl, trivial, rfl⟩, rfl, trivial⟩
   · conv => whnf
     refine ⟨{j : Nat // j ≤ xs.length ∧ ∀ x ∈ xs.take j, x.1.okW}, fun ⟨j, _⟩ => ⟨[(4, .o (.c (.val (.string (strOf (encAll ((xs.take j).map Prod.fst))))))), (9, .o (.c (.val (.slice (some a) xs.length c)))), (10, .o (.c (.val (.int .i64 (xs.length : Nat))))), (11, .o (.c (.val (.int .i64 (j : Nat)))))], []⟩, fun j => xs.length - j.1, ⟨⟨0, Nat.zero_le _, fun x hx => (List.not_mem_nil hx).elim⟩, [], ⟨rfl, trivial, rfl⟩, rfl, rfl, rfl, rfl, trivial⟩, fun ⟨j, hj, hoks⟩ => ?_⟩
     conv => whnf
     refine ⟨fun g => ?_, fun g => ?_⟩
     · have g : j < xs.length := lt_t g
       obtain ⟨⟨p, pv⟩, hx⟩ : ∃ x, xs[j]? = some x := ⟨_, List.getElem?_eq_getElem g⟩
       have hcl := hb j _ hx
       simp only at hcl
       have hpm : p ∈ xs.map Prod.fst := List.mem_map.2 ⟨_, List.mem_of_getElem? hx, rfl⟩
       have hpw := wts_mem hpm
       have hsan := Pg.sane_of (p := p) ⟨hcl.fit.1, hcl.fit.2.1, hcl.fit.2.2.1⟩ (by omega)
       have htk : (xs.take (j + 1)).map Prod.fst = (xs.take j).map Prod.fst ++ [p] := by rw [List.take_add_one, hx, List.map_append]; rfl
       have hgs : ∀ q ∈ (xs.take j).map Prod.fst, q.good := fun q hq => by
         obtain ⟨y, hy, rfl⟩ := List.mem_map.1 hq
         obtain ⟨i, hi, hyi⟩ := List.mem_iff_getElem.1 hy
         have hyx : xs[i]? = some y := by
           rw [← hyi, List.getElem_take]
           exact List.getElem?_eq_getElem _
         have := (hb i y hyx).fit
         exact (hoks y hy).good this.1 this.2.1 this.2.2.1
       have hsz := encAll_size _ hgs
       have hwt : wts ((xs.take j).map Prod.fst) + p.wt ≤ wts (xs.map Prod.fst) := by
         have h1 := wts_add ((xs.take (j + 1)).map Prod.fst) ((xs.drop (j + 1)).map Prod.fst)
         rw [← List.map_append, List.take_append_drop, htk, wts_add] at h1
         have : wts [p] = p.wt := Nat.add_zero _
         omega
       conv => whnf
       refine Or.inl ?_
       conv => whnf
       refine ⟨⟨Int.natCast_nonneg j, Int.ofNat_lt.2 g⟩, ?_⟩
       conv => whnf
       refine ⟨.int .u32 (p.ser : Nat), ?_⟩
       conv => whnf
       refine ⟨hcl.c0, ?_⟩
       conv => whnf
       refine ⟨rfl, ?_⟩
       conv => whnf
       refine ⟨.int .u32 (p.seq : Nat), ?_⟩
       conv => whnf
       refine ⟨hcl.c1, ?_⟩
       conv => whnf
       refine ⟨rfl, ?_⟩
       conv => whnf
       refine ⟨.int .u64 (p.gran : Nat), ?_⟩
       conv => whnf
       refine ⟨hcl.c2, ?_⟩
       conv => whnf
       refine ⟨rfl, ?_⟩
       conv => whnf
       refine ⟨.int .i64 p.flags, ?_⟩
       conv => whnf
       refine ⟨hcl.c3, ?_⟩
       conv => whnf
       refine ⟨rfl, ?_⟩
       conv => whnf
       refine ⟨pv, ?_⟩
       conv => whnf
       refine ⟨hcl.c4, ?_⟩
       conv => whnf
       refine ⟨hcl.one, ?_⟩
       conv => whnf
       refine ⟨.bool p.more, ?_⟩
       conv => whnf
       refine ⟨hcl.c5, ?_⟩
       conv => whnf
       refine ⟨rfl, ?_⟩
       conv => whnf
       refine cL0 (pageTextW w0 hcl.str hsan) ?_
       rintro _ _ (⟨hok, rfl, rfl⟩ | ⟨hno, rfl, rfl⟩)
       · conv => whnf
         refine Or.inl ?_
         conv => whnf
         refine ⟨fun g => zF g, fun _ => ?_⟩
         conv => whnf
         have hg := hok.good hsan.ser hsan.seq hsan.gran
         have hps := pgEnc_size hg
         refine ⟨by rw [strOf_siz, strOf_siz]; unfold Pg.wt at hpw hwt; omega, ?_⟩
         conv => whnf
         refine ⟨⟨j + 1, g, fun x hx2 => ?_⟩, ⟨[], ⟨rfl, trivial, rfl⟩, ?_, rfl, rfl, eq_i64 (by rw [nadd, nwrapi (by omega)]), trivial⟩, by show xs.length - (j + 1) < xs.length - j; omega⟩
         · rw [List.take_add_one, hx] at hx2
           rcases List.mem_append.1 hx2 with h | h
           · exact hoks x h
           · rw [List.mem_singleton.1 h]
             exact hok
         · show some (AV.o (.c (.val (.string (strOf (encAll ((xs.take j).map Prod.fst)) ++ strOf (pgEnc p)))))) = some (AV.o (.c (.val (.string (strOf (encAll ((xs.take (j + 1)).map Prod.fst)))))))
           rw [htk, ← strOf_add]
           unfold encAll
           rw [List.map_append, List.flatten_append, List.map_cons, List.map_nil, List.flatten_singleton]
       · conv => whnf
         refine Or.inl ?_
         conv => whnf
         refine ⟨fun _ => ?_, fun g => zT g⟩
         conv => whnf
         exact Or.inr ⟨[], .t [.c (.val (.string (ByteArray.mk #[]))), .c (.val (.int .i64 ((2 : Nat) : Int)))], [], ⟨rfl, trivial, rfl⟩, rfl, .inr ⟨⟨(p, pv), List.mem_of_getElem? hx, hno⟩, rfl, rfl⟩⟩
     · have g : xs.length ≤ j := lt_f g
       have hall : xs.take j = xs := List.take_of_length_le g
       conv => whnf
       rw [hall]
       exact ⟨⟨by rw [hall] at hoks; exact hoks⟩, [], ⟨rfl, trivial, rfl⟩, rfl, trivial⟩
 · conv => whnf
   exact Or.inl (.inl ⟨hok, rfl, rfl⟩)
end Go.Proofs.YtokkphocaloelaaGreatDoor

end
section
namespace Go.Proofs.YtokkphocaloelaaGreatDoor
open Go Go.Vc
open Go.RowKit (Below)
set_option maxRecDepth 100000
set_option maxHeartbeats 8000000

theorem callsA_base2 {P : Program} {w0 : World} {f : FuncId} {args : List A1} {H : List Blk} {y z : Value}
   (hcal : (match P.funcs[f]? with | some fn => fn.body.isSome && !(fn.name == "runtime.NumGoroutine") | none => false) = true)
   (h : ∀ ρ w vs, RH w0 ρ H w → All2 (A1.R ρ) args vs → ∃ args', All2 (A1.R []) args' vs ∧ CallsA P w f args' [] fun r H' => r = .t [.c (.val y), .c (.val z)] ∧ H' = []) :
   CallsA P w0 f args H fun r H' => r = .t [.c (.val y), .c (.val z)] ∧ H' = H := by
 refine ⟨hcal, fun ρ w vs hR hA => ?_⟩
 obtain ⟨args', hA', hc⟩ := h ρ w vs hR hA
 have h0 : RH w [] [] w := ⟨rfl, fun b k e h => by simp at h, fun b b' k k' g h => by simp at h, fun g hg => by obtain ⟨b, k, h, _⟩ := hg; simp at h, Below.refl _ _⟩
 refine (hc.out [] w vs h0 hA').mono ?_
 rintro e w' ⟨r, H', ρ', v, ⟨rfl, rfl⟩, rfl, hv, hR', _, hfr, _⟩
 have hb := hR'.base
 have hold : ∀ i, i < w.heap.size → w'.heap[i]? = w.heap[i]? := fun i hi => hb.block i hi
 have hv' : AV.R ρ (.t [.c (.val y), .c (.val z)]) v := by
   obtain ⟨ys, rfl, hy⟩ := hv
   refine ⟨ys, rfl, ?_⟩
   generalize ys.toList = l at hy
   cases hy with
   | cons h1 hy =>
     cases hy with
     | cons h2 hy =>
       cases hy
       exact .cons ⟨h1.1, h1.2⟩ (.cons ⟨h2.1, h2.2⟩ .nil)
 refine ⟨_, H, ρ, v, ⟨rfl, rfl⟩, rfl, hv', ⟨hR.len, fun b k e hb' he => (hR.ok b k e hb' he).keep fun g hg hl => hold g ((hR.ok b k e hb' he).block hl hg), hR.inj, fun g hg => ⟨(hR.lo g hg).1, Nat.lt_of_lt_of_le (hR.lo g hg).2 hb.size⟩, ?_⟩, ⟨[], by simp⟩, ?_, fun g hg => .inl hg⟩
 · exact ⟨hb.os.trans hR.base.os, hb.tape.trans hR.base.tape, hb.output.trans hR.base.output, Nat.le_trans hR.base.size hb.size, fun k hk => (hold k (Nat.lt_of_lt_of_le hk hR.base.size)).trans (hR.base.block k hk)⟩
 · exact ⟨hb.os, hb.tape, hb.output, hb.size, fun i hi _ => hold i hi⟩
def tagsE : List Int := [79, 112, 117, 115, 84, 97, 103, 115] ++ leL 9 4 ++ [99, 97, 114, 114, 111, 110, 97, 100, 101] ++ leL 0 4
theorem tagsW (w0 : World) : CallsA Tryz.prog w0 22 [.c (.val (.string (ByteArray.mk #[99, 97, 114, 114, 111, 110, 97, 100, 101]))), .c (.val (.slice none 0 0))] [] fun r H => r = .o (.c (.val (.string (strOf tagsE)))) ∧ H = [] := by
 refine callsA_of_ev c22_ ?_
 conv => whnf
 have w1 : IntKind.u64.wrap (((ByteArray.mk #[99, 97, 114, 114, 111, 110, 97, 100, 101]).size : Nat) : Int) = ((9 : Nat) : Int) := rfl
 have w2 : IntKind.u64.wrap ((0 : Nat) : Int) = ((0 : Nat) : Int) := rfl
 have h8 : (ByteArray.mk #[79, 112, 117, 115, 84, 97, 103, 115]).size = 8 := rfl
 have h9 : (ByteArray.mk #[99, 97, 114, 114, 111, 110, 97, 100, 101]).size = 9 := rfl
 rw [w1]
 refine cL0 (leastW w0 9 (size := 4) (by decide)) ?_
 rintro _ _ ⟨rfl, rfl⟩
 conv => whnf
 refine ⟨by rw [h8, strOf_siz, leL_len]; decide, ?_⟩
 conv => whnf
 refine ⟨by rw [ByteArray.size_append, h8, h9, strOf_siz, leL_len]; decide, ?_⟩
 conv => whnf
 rw [w2]
 refine cL0 (leastW w0 0 (size := 4) (by decide)) ?_
 rintro _ _ ⟨rfl, rfl⟩
 conv => whnf
 refine ⟨by rw [ByteArray.size_append, ByteArray.size_append, h8, h9, strOf_siz, strOf_siz, leL_len, leL_len]; decide, ?_⟩
 conv => whnf
 have ht : ByteArray.mk #[79, 112, 117, 115, 84, 97, 103, 115] ++ strOf (leL 9 4) ++ ByteArray.mk #[99, 97, 114, 114, 111, 110, 97, 100, 101] ++ strOf (leL 0 4) = strOf tagsE := by
   unfold tagsE
   rw [strOf_add, strOf_add, strOf_add]
   rfl
 rw [ht]
 refine Or.inl ?_
 conv => whnf
 refine ⟨Unit, fun _ => ⟨[(5, .o (.c (.val (.string (strOf tagsE))))), (21, .o (.c (.val (.int .i64 ((0 : Nat) : Int))))), (22, .o (.c (.val (.int .i64 ((0 : Nat) : Int)))))], []⟩, fun _ => 0, ⟨(), [], ⟨rfl, trivial, rfl⟩, rfl, rfl, rfl, trivial⟩, fun _ => ?_⟩
 conv => whnf
 refine ⟨fun g => zF g, fun _ => ?_⟩
 conv => whnf
 exact Or.inl ⟨rfl, rfl⟩
def hdPg (s : ByteArray) : Pg := ⟨1, 0, 0, 2, [s], false⟩
def tgPg (t : ByteArray) : Pg := ⟨1, 1, 0, 0, [t], false⟩
theorem ok_one {p : Pg} {s : ByteArray} (h1 : p.parts = [s]) (h2 : p.more = false) (h3 : s.size ≤ 60000) (h4 : 0 ≤ p.flags ∧ p.flags ≤ 7) : p.okW := by
 refine ⟨fun h => Bool.noConfusion (h.1.symm.trans h2), ?_, fun h => Bool.noConfusion (h.symm.trans h2), h4.1, h4.2⟩
 have hl : (bytesOf s).length = s.size := bytesOf_len s
 have e1 : p.segs = lc (bytesOf s) ++ [lr (bytesOf s)] := by
   unfold Pg.segs Pg.pts
   rw [h1, h2]
   show lc (bytesOf s) ++ (if [] = [] ∧ false = true then [] else [lr (bytesOf s)]) ++ [] = _
   rw [if_neg (fun c => Bool.noConfusion c.2), List.append_nil]
 have h2 : (lc (bytesOf s)).length = (bytesOf s).length / 255 := by
   have := congrArg List.length (lenI_lc (bytesOf s))
   unfold lenI at this
   rw [List.length_map, List.length_replicate] at this
   exact this
 rw [e1, List.length_append, h2, List.length_singleton, hl]
 omega
theorem all2_cons {α β : Type} {R : α → β → Prop} {a : α} {l : List α} {m : List β} (h : All2 R (a :: l) m) : ∃ b m', m = b :: m' ∧ R a b ∧ All2 R l m' := by
 cases h with
 | cons h1 h2 => exact ⟨_, _, rfl, h1, h2⟩
def twoPg : List CV := [.val (.int .u32 ((1 : Nat) : Int)), .val (.int .u32 ((0 : Nat) : Int)), .val (.int .u64 ((0 : Nat) : Int)), .val (.int .i64 ((2 : Nat) : Int)), .sli 1 1 0 1 1, .val (.bool false), .val (.int .u32 ((1 : Nat) : Int)), .val (.int .u32 ((1 : Nat) : Int)), .val (.int .u64 ((0 : Nat) : Int)), .val (.int .i64 ((0 : Nat) : Int)), .sli 2 1 0 1 1, .val (.bool false)]
theorem own_str {w0 : World} {ρ : Ren} {H : List Blk} {w : World} (hR : RH w0 ρ H w) {b : Nat} {T : TypeId} {s : ByteArray} (hb : H[b]? = some (.cells T [.val (.string s)])) {v : Value} (hv : (CV.sli b 1 0 1 1).R ρ v) : strsAt w v [s] ∧ v.oneCell' = true := by
 obtain ⟨e, hρ, g, arr, k1, k2, k3⟩ := hR.get hb
 obtain ⟨g', hg, rfl, _⟩ := hv
 have hgg : g' = g := by
   rw [at_of_get hρ, k1] at hg
   exact (Option.some.inj hg).symm
 subst hgg
 obtain ⟨x, r, hx, h0, _⟩ := all2_cons k3
 refine ⟨.inr ⟨_, 1, rfl, Nat.le_refl _, fun i s' hi => ?_⟩, rfl⟩
 match i, hi with
 | 0, hi =>
   cases hi
   show w.cell? ⟨g', _, none⟩ = _
   rw [cell_at k2, ← Array.getElem?_toList, hx]
   exact congrArg some h0.1
 | i + 1, hi => simp at hi
theorem own_pages {w0 : World} {ρ : Ren} {H : List Blk} {w : World} (hR : RH w0 ρ H w) {T1 T2 T3 : TypeId} {s t : ByteArray} (h1 : H[1]? = some (.cells T1 [.val (.string s)])) (h2 : H[2]? = some (.cells T2 [.val (.string t)])) (h3 : H[3]? = some (.cells T3 twoPg)) {v : Value} (hv : (CV.sli 3 6 0 2 2).R ρ v) :
   ∃ v1 v2, pgsAt w v [(hdPg s, v1), (tgPg t, v2)] ∧ v.oneCell' = true := by
 obtain ⟨e, hρ, g, arr, k1, k2, k3⟩ := hR.get h3
 obtain ⟨g', hg, rfl, _⟩ := hv
 have hgg : g' = g := by
   rw [at_of_get hρ, k1] at hg
   exact (Option.some.inj hg).symm
 subst hgg
 unfold twoPg at k3
 obtain ⟨x0, r0, e0, q0, k3⟩ := all2_cons k3
 obtain ⟨x1, r1, e1, q1, k3⟩ := all2_cons k3
 obtain ⟨x2, r2, e2, q2, k3⟩ := all2_cons k3
 obtain ⟨x3, r3, e3, q3, k3⟩ := all2_cons k3
 obtain ⟨x4, r4, e4, q4, k3⟩ := all2_cons k3
 obtain ⟨x5, r5, e5, q5, k3⟩ := all2_cons k3
 obtain ⟨y0, r6, e6, p0, k3⟩ := all2_cons k3
 obtain ⟨y1, r7, e7, p1, k3⟩ := all2_cons k3
 obtain ⟨y2, r8, e8, p2, k3⟩ := all2_cons k3
 obtain ⟨y3, r9, e9, p3, k3⟩ := all2_cons k3
 obtain ⟨y4, r10, e10, p4, k3⟩ := all2_cons k3
 obtain ⟨y5, r11, e11, p5, k3⟩ := all2_cons k3
 have harr : arr.toList = [x0, x1, x2, x3, x4, x5, y0, y1, y2, y3, y4, y5] ++ r11 := by rw [e0, e1, e2, e3, e4, e5, e6, e7, e8, e9, e10, e11]; rfl
 have hat : ∀ (k : Nat) x, ([x0, x1, x2, x3, x4, x5, y0, y1, y2, y3, y4, y5] ++ r11)[k]? = some x → w.cell? ⟨g', k, none⟩ = some x := fun k x hk => by rw [cell_at k2, ← Array.getElem?_toList, harr, hk]
 obtain ⟨s1, o1⟩ := own_str hR h1 q4
 obtain ⟨s2, o2⟩ := own_str hR h2 p4
 refine ⟨x4, y4, .inr ⟨_, 2, rfl, Nat.le_refl _, fun i x hi => ?_⟩, rfl⟩
 match i, hi with
 | 0, hi =>
   cases hi
   exact ⟨hat 0 _ (congrArg some q0.1), hat 1 _ (congrArg some q1.1), hat 2 _ (congrArg some q2.1), hat 3 _ (congrArg some q3.1), hat 4 _ rfl, hat 5 _ (congrArg some q5.1), o1, s1, ⟨show 1 < 4294967296 by decide, show 0 < 4294967296 by decide, show 0 < 18446744073709551616 by decide, show (-9223372036854775808 : Int) ≤ 2 by decide, show (2 : Int) < 9223372036854775808 by decide⟩⟩
 | 1, hi =>
   cases hi
   exact ⟨hat 6 _ (congrArg some p0.1), hat 7 _ (congrArg some p1.1), hat 8 _ (congrArg some p2.1), hat 9 _ (congrArg some p3.1), hat 10 _ rfl, hat 11 _ (congrArg some p5.1), o2, s2, ⟨show 1 < 4294967296 by decide, show 1 < 4294967296 by decide, show 0 < 18446744073709551616 by decide, show (-9223372036854775808 : Int) ≤ 0 by decide, show (0 : Int) < 9223372036854775808 by decide⟩⟩
 | i + 2, hi => simp at hi
theorem Hd.text_size {h : Hd} (h1 : h.text.2 = 1) : h.text.1.size ≤ 276 := by
 have hf : h.fix.length = 19 := by
   unfold Hd.fix opusHead
   simp only [List.length_append, leL_len, List.length_cons, List.length_nil]
 unfold Hd.text at h1 ⊢
 by_cases c1 : h.bad
 · rw [if_pos c1] at h1
   exact absurd h1 (by decide)
 rw [if_neg c1] at h1 ⊢
 by_cases c2 : h.map = 0
 · rw [if_pos c2] at h1 ⊢
   show (strOf h.fix).size ≤ 276
   rw [strOf_siz, hf]
   decide
 rw [if_neg c2] at h1 ⊢
 by_cases c3 : h.bad2
 · rw [if_pos c3] at h1
   exact absurd h1 (by decide)
 rw [if_neg c3] at h1 ⊢
 show (strOf (h.fix ++ [h.str, h.cou]) ++ h.mapping).size ≤ 276
 rw [ByteArray.size_append, strOf_siz, List.length_append, hf]
 unfold Hd.bad at c1
 unfold Hd.bad2 at c3
 simp only [List.length_cons, List.length_nil]
 omega
def tagsS : ByteArray := strOf tagsE
def Hd.pages (h : Hd) : List Pg := [hdPg h.text.1, tgPg tagsS]
theorem headWriteW (w0 : World) (h : Hd) (hr : h.rate < 4294967296) (hi : ∀ x ∈ [h.ver, h.ch, h.map, h.skip, h.gain, h.str, h.cou], -9223372036854775808 ≤ x ∧ x < 9223372036854775808) (hm : h.mapping.size ≤ 2147483647)
   {ma : Option Addr} {mn mc : Nat} : CallsA Tryz.prog w0 25 [.a (h.cells (.slice ma mn mc))] [] fun r H =>
     (mn = 0 ∧ h.text.2 = 1 ∧ r = .t [.c (.val (.string (strOf (encAll h.pages)))), .c (.val (.int .i64 ((1 : Nat) : Int)))] ∧ H = []) ∨
     (r = .t [.c (.val (.string (ByteArray.mk #[]))), .c (.val (.int .i64 ((2 : Nat) : Int)))] ∧ H = []) := by
 have ht := headTextW w0 h hr hi hm (ma := ma) (mn := mn) (mc := mc)
 refine callsA_of_ev c25_ ?_
 conv => whnf
 refine cL0 ht ?_
 rintro _ _ ⟨rfl, rfl⟩
 conv => whnf
 refine Or.inl ?_
 conv => whnf
 refine ⟨fun g => ?_, fun g => ?_⟩
 · conv => whnf
   exact Or.inr ⟨[], .t [.c (.val (.string (ByteArray.mk #[]))), .c (.val (.int .i64 ((2 : Nat) : Int)))], [], ⟨rfl, trivial, rfl⟩, rfl, .inr ⟨rfl, rfl⟩⟩
 have g : (h.textM mn).2 = 1 := of_bne_f (b := 1) g
 have hmn : mn = 0 := by
   unfold Hd.textM at g
   by_cases c : 0 < mn
   · rw [if_pos c] at g
     exact absurd g (by decide)
   · omega
 subst hmn
 have hT : h.textM 0 = h.text := if_neg (Nat.lt_irrefl _)
 rw [hT] at g ⊢
 have hsz := Hd.text_size g
 conv => whnf
 refine cL0 (tagsW w0) ?_
 rintro _ _ ⟨rfl, rfl⟩
 conv => whnf
 have hts : tagsS.size = 25 := by unfold tagsS; rw [strOf_siz]; rfl
 have hok : ∀ x ∈ [(hdPg h.text.1, (Value.bool false)), (tgPg tagsS, (Value.bool false))], x.1.okW := by
   intro x hx
   simp only [List.mem_cons, List.not_mem_nil, or_false] at hx
   rcases hx with rfl | rfl
   · exact ok_one (s := h.text.1) rfl rfl (by omega) ⟨show (0 : Int) ≤ 2 by decide, show (2 : Int) ≤ 7 by decide⟩
   · exact ok_one (s := tagsS) rfl rfl (by omega) ⟨show (0 : Int) ≤ 0 by decide, show (0 : Int) ≤ 7 by decide⟩
 have hcal := (oggWriteW w0 (v := .slice none 0 0) (xs := []) (.inl ⟨rfl, rfl⟩) (by decide)).cal
 refine (callsA_base2 (y := .string (strOf (encAll h.pages))) (z := .int .i64 ((1 : Nat) : Int)) hcal fun ρ w vs hR hA => ?_).mono ?_
 · cases hA with
   | cons hv hA =>
     cases hA
     obtain ⟨v1, v2, hpg, hone⟩ := own_pages (s := h.text.1) (t := tagsS) hR rfl rfl rfl hv
     refine ⟨[.c (.val _)], .cons ⟨rfl, hone⟩ .nil, (oggWriteW w hpg ?_).mono ?_⟩
     · show 27 + 1 + (h.text.1.size + 0) + (27 + 1 + (tagsS.size + 0) + 0) ≤ _
       omega
     · rintro _ _ (⟨_, rfl, rfl⟩ | ⟨⟨x, hx, hno⟩, _, _⟩)
       · exact ⟨rfl, rfl⟩
       · simp only [List.mem_cons, List.not_mem_nil, or_false] at hx
         rcases hx with rfl | rfl
         · exact absurd (hok _ (List.mem_cons_self ..)) hno
         · exact absurd (hok _ (List.mem_cons_of_mem _ (List.mem_cons_self ..))) hno
 · rintro _ _ ⟨rfl, rfl⟩
   conv => whnf
   exact Or.inr ⟨[], .t [.c (.val (.string (strOf (encAll h.pages)))), .c (.val (.int .i64 ((1 : Nat) : Int)))], [], ⟨rfl, trivial, rfl⟩, rfl, .inl ⟨rfl, g, rfl, rfl⟩⟩
end Go.Proofs.YtokkphocaloelaaGreatDoor

end
section
namespace Go.Proofs.YtokkphocaloelaaGreatDoor
open Go Go.Vc
set_option maxRecDepth 100000
set_option maxHeartbeats 8000000

theorem zz7W (w0 : World) (h : Hd) {ma : Option Addr} {mn mc : Nat} : CallsA Tryz.prog w0 8 [.a (h.cells (.slice ma mn mc))] [] fun r H => (∃ t, r = .o (.c (.val (.bool t))) ∧ (t = true → h.mapping.size ≤ 2147483647)) ∧ H = [] := by
 refine callsA_of_ev c8_ ?_
 conv => whnf
 refine Or.inl ?_
 conv => whnf
 refine ⟨fun g => ?_, fun g => ?_⟩
 · conv => whnf
   exact Or.inr ⟨[], .o (.c (.val (.bool false))), [], ⟨rfl, trivial, rfl⟩, rfl, ⟨_, rfl, fun h => Bool.noConfusion h⟩, rfl⟩
 have g : h.mapping.size ≤ 2147483647 := gt_f g
 conv => whnf
 refine Or.inl ?_
 conv => whnf
 refine ⟨fun g1 => ?_, fun g1 => ?_⟩
 · conv => whnf
   exact Or.inr ⟨[], .o (.c (.val (.bool false))), [], ⟨rfl, trivial, rfl⟩, rfl, ⟨_, rfl, fun h => Bool.noConfusion h⟩, rfl⟩
 · conv => whnf
   exact Or.inr ⟨[], .o (.c (.val (.bool true))), [], ⟨rfl, trivial, rfl⟩, rfl, ⟨_, rfl, fun _ => g⟩, rfl⟩
structure StrOk (h : Hd) (xs : List (Pg × Value)) : Prop where
 hd : h.text.2 = 1
 ok : ∀ x ∈ xs, x.1.okW
 len : xs.length ≤ 20
 siz : (encAll (xs.map Prod.fst)).length ≤ 20000
theorem lStreamM (w0 : World) (h : Hd) (hr : h.rate < 4294967296) (hi : ∀ x ∈ [h.ver, h.ch, h.map, h.skip, h.gain, h.str, h.cou], -9223372036854775808 ≤ x ∧ x < 9223372036854775808) (hm : h.mapping.size ≤ 2147483647)
   {ma : Option Addr} {mn mc : Nat} {v : Value} {xs : List (Pg × Value)} (hv : pgsAt w0 v xs) (hw : wtx xs ≤ 1073741824) :
   CallsA Tryz.prog w0 10 [.a (h.cells (.slice ma mn mc)), .c (.val v)] [] fun r H =>
     (mn = 0 ∧ StrOk h xs ∧ r = .t [.c (.val (.string (strOf (encAll h.pages)))), .c (.val (.string (strOf (encAll (xs.map Prod.fst))))), .c (.val (.bool true))] ∧ H = []) ∨
     ((∃ a b, r = .t [.c (.val (.string a)), .c (.val (.string b)), .c (.val (.bool false))]) ∧ H = []) := by
 have hlen := wts_len (xs.map Prod.fst)
 rw [List.length_map] at hlen
 have hw2 : wts (xs.map Prod.fst) ≤ 1073741824 := hw
 refine callsA_of_ev c10_ ?_
 conv => whnf
 refine Or.inr ⟨Unit, fun _ => ⟨[(1, .o (.c (.val v))), (2, .o (.c (.ptr 0 0)))], [.cells 25 (h.cells (.slice ma mn mc))]⟩, ?_, fun _ => ?_⟩
 · rcases hv with ⟨rfl, rfl⟩ | ⟨a, c, rfl, hc, hb⟩
   · conv => whnf
     refine ⟨Unit, fun _ => ⟨[(1, .o (.c (.val (.slice none 0 0)))), (2, .o (.c (.ptr 0 0))), (12, .o (.c (.val (.int .i64 ((0 : Nat) : Int))))), (13, .o (.c (.val (.int .i64 ((0 : Nat) : Int)))))], [.cells 25 (h.cells (.slice ma mn mc))]⟩, fun _ => 0, ⟨(), [0], ⟨rfl, ⟨rfl, rfl, trivial⟩, rfl⟩, rfl, rfl, rfl, rfl, trivial⟩, fun _ => ?_⟩
     conv => whnf
     refine ⟨fun g => zF g, fun _ => ?_⟩
     conv => whnf
     exact ⟨(), [0], ⟨rfl, ⟨rfl, rfl, trivial⟩, rfl⟩, rfl, rfl, trivial⟩
   · conv => whnf
     refine ⟨{j : Nat // j ≤ xs.length}, fun ⟨j, _⟩ => ⟨[(1, .o (.c (.val (.slice (some a) xs.length c)))), (2, .o (.c (.ptr 0 0))), (11, .o (.c (.val (.slice (some a) xs.length c)))), (12, .o (.c (.val (.int .i64 (xs.length : Nat))))), (13, .o (.c (.val (.int .i64 (j : Nat)))))], [.cells 25 (h.cells (.slice ma mn mc))]⟩, fun j => xs.length - j.1, ⟨⟨0, Nat.zero_le _⟩, [0], ⟨rfl, ⟨rfl, rfl, trivial⟩, rfl⟩, rfl, rfl, rfl, rfl, rfl, trivial⟩, fun ⟨j, hj⟩ => ?_⟩
     conv => whnf
     refine ⟨fun g => ?_, fun g => ?_⟩
     · have g : j < xs.length := lt_t g
       obtain ⟨⟨p, pv⟩, hx⟩ : ∃ x, xs[j]? = some x := ⟨_, List.getElem?_eq_getElem g⟩
       have hcl := hb j _ hx
       simp only at hcl
       conv => whnf
       refine Or.inl ?_
       conv => whnf
       refine ⟨⟨Int.natCast_nonneg j, Int.ofNat_lt.2 g⟩, ?_⟩
       conv => whnf
       refine ⟨.int .u32 (p.ser : Nat), ?_⟩
       conv => whnf
       refine ⟨hcl.c0, ?_⟩
       conv => whnf
       refine ⟨rfl, ?_⟩
       conv => whnf
       refine ⟨.int .u32 (p.seq : Nat), ?_⟩
       conv => whnf
       refine ⟨hcl.c1, ?_⟩
       conv => whnf
       refine ⟨rfl, ?_⟩
       conv => whnf
       refine ⟨.int .u64 (p.gran : Nat), ?_⟩
       conv => whnf
       refine ⟨hcl.c2, ?_⟩
       conv => whnf
       refine ⟨rfl, ?_⟩
       conv => whnf
       refine ⟨.int .i64 p.flags, ?_⟩
       conv => whnf
       refine ⟨hcl.c3, ?_⟩
       conv => whnf
       refine ⟨rfl, ?_⟩
       conv => whnf
       refine ⟨pv, ?_⟩
       conv => whnf
       refine ⟨hcl.c4, ?_⟩
       conv => whnf
       refine ⟨hcl.one, ?_⟩
       conv => whnf
       refine ⟨.bool p.more, ?_⟩
       conv => whnf
       refine ⟨hcl.c5, ?_⟩
       conv => whnf
       refine ⟨rfl, ?_⟩
       conv => whnf
       refine ⟨fun g1 => ?_, fun g1 => ?_⟩
       · conv => whnf
         exact Or.inr ⟨[], .t [.c (.val (.string (ByteArray.mk #[]))), .c (.val (.string (ByteArray.mk #[]))), .c (.val (.bool false))], [], ⟨rfl, trivial, rfl⟩, rfl, .inr ⟨⟨_, _, rfl⟩, rfl⟩⟩
       · conv => whnf
         exact ⟨⟨j + 1, g⟩, ⟨[0], ⟨rfl, ⟨rfl, rfl, trivial⟩, rfl⟩, rfl, rfl, rfl, rfl, eq_i64 (by rw [nadd, nwrapi (by omega)]), trivial⟩, by show xs.length - (j + 1) < xs.length - j; omega⟩
     · conv => whnf
       exact ⟨(), [0], ⟨rfl, ⟨rfl, rfl, trivial⟩, rfl⟩, rfl, rfl, trivial⟩
 have hln : ∃ a c, v = .slice a xs.length c := by
   rcases hv with ⟨rfl, rfl⟩ | ⟨a, c, rfl, _⟩
   · exact ⟨none, 0, rfl⟩
   · exact ⟨_, _, rfl⟩
 obtain ⟨sa, sc, rfl⟩ := hln
 conv => whnf
 refine cL0 (headWriteW w0 h hr hi hm) ?_
 rintro _ _ (⟨rfl, ht, rfl, rfl⟩ | ⟨rfl, rfl⟩)
 · conv => whnf
   refine cL0 (oggWriteW w0 hv hw) ?_
   rintro _ _ (⟨hok, rfl, rfl⟩ | ⟨hno, rfl, rfl⟩)
   · conv => whnf
     refine ⟨fun _ => ?_, fun g => zT g⟩
     conv => whnf
     refine ⟨fun _ => ?_, fun g => zT g⟩
     conv => whnf
     refine ⟨fun g => ?_, fun g => ?_⟩
     · have g : xs.length ≤ 20 := le_t g
       conv => whnf
       by_cases hs : (encAll (xs.map Prod.fst)).length ≤ 20000
       · have hd : decide ((((strOf (encAll (xs.map Prod.fst))).size : Nat) : Int) ≤ ((20000 : Nat) : Int)) = true := by
           rw [strOf_siz]
           exact decide_eq_true (by omega)
         rw [hd]
         exact Or.inr ⟨[], .t [.c (.val (.string (strOf (encAll h.pages)))), .c (.val (.string (strOf (encAll (xs.map Prod.fst))))), .c (.val (.bool true))], [], ⟨rfl, trivial, rfl⟩, rfl, .inl ⟨rfl, ⟨ht, hok, g, hs⟩, rfl, rfl⟩⟩
       · have hd : decide ((((strOf (encAll (xs.map Prod.fst))).size : Nat) : Int) ≤ ((20000 : Nat) : Int)) = false := by
           rw [strOf_siz]
           exact decide_eq_false (by omega)
         rw [hd]
         exact Or.inr ⟨[], .t [.c (.val (.string (strOf (encAll h.pages)))), .c (.val (.string (strOf (encAll (xs.map Prod.fst))))), .c (.val (.bool false))], [], ⟨rfl, trivial, rfl⟩, rfl, .inr ⟨⟨_, _, rfl⟩, rfl⟩⟩
     · conv => whnf
       exact Or.inr ⟨[], .t [.c (.val (.string (strOf (encAll h.pages)))), .c (.val (.string (strOf (encAll (xs.map Prod.fst))))), .c (.val (.bool false))], [], ⟨rfl, trivial, rfl⟩, rfl, .inr ⟨⟨_, _, rfl⟩, rfl⟩⟩
   · conv => whnf
     refine ⟨fun _ => ?_, fun g => zT g⟩
     conv => whnf
     refine ⟨fun g => zF g, fun _ => ?_⟩
     conv => whnf
     exact Or.inr ⟨[], .t [.c (.val (.string (strOf (encAll h.pages)))), .c (.val (.string (ByteArray.mk #[]))), .c (.val (.bool false))], [], ⟨rfl, trivial, rfl⟩, rfl, .inr ⟨⟨_, _, rfl⟩, rfl⟩⟩
 · conv => whnf
   refine cL0 (oggWriteW w0 hv hw) ?_
   rintro _ _ (⟨hok, rfl, rfl⟩ | ⟨hno, rfl, rfl⟩)
   · conv => whnf
     refine ⟨fun g => zF g, fun _ => ?_⟩
     conv => whnf
     exact Or.inr ⟨[], .t [.c (.val (.string (ByteArray.mk #[]))), .c (.val (.string (strOf (encAll (xs.map Prod.fst))))), .c (.val (.bool false))], [], ⟨rfl, trivial, rfl⟩, rfl, .inr ⟨⟨_, _, rfl⟩, rfl⟩⟩
   · conv => whnf
     refine ⟨fun g => zF g, fun _ => ?_⟩
     conv => whnf
     exact Or.inr ⟨[], .t [.c (.val (.string (ByteArray.mk #[]))), .c (.val (.string (ByteArray.mk #[]))), .c (.val (.bool false))], [], ⟨rfl, trivial, rfl⟩, rfl, .inr ⟨⟨_, _, rfl⟩, rfl⟩⟩
end Go.Proofs.YtokkphocaloelaaGreatDoor

end
section
namespace Go.Proofs.YtokkphocaloelaaGreatDoor
open Go Go.Vc
set_option maxRecDepth 100000
set_option maxHeartbeats 8000000

def strsL (l : List (List Int)) : List ByteArray := l.map strOf
theorem full_get : ∀ (n : Nat) (x : List Int) (j : Nat), j < n → (full n x)[j]? = some ((x.drop (255 * j)).take 255)
 | 0, _, _, h => absurd h (Nat.not_lt_zero _)
 | n + 1, x, 0, _ => rfl
 | n + 1, x, j + 1, h => by
   rw [full, List.getElem?_cons_succ, full_get n (x.drop 255) j (by omega), List.drop_drop, show 255 + 255 * j = 255 * (j + 1) by omega]
theorem lc_get {x : List Int} {j : Nat} (h : j < x.length / 255) : (lc x)[j]? = some ((x.drop (255 * j)).take 255) := full_get _ x j h
end Go.Proofs.YtokkphocaloelaaGreatDoor

end
section
namespace Go.Proofs.YtokkphocaloelaaGreatDoor
open Go Go.Vc
set_option maxRecDepth 100000
set_option maxHeartbeats 8000000

theorem neq_self (s : ByteArray) : (!(s.toList == s.toList)) = false := by rw [beq_self_eq_true]; rfl
theorem neq_nat (n : Nat) : (((n : Nat) : Int) != ((n : Nat) : Int)) = false := by simp
end Go.Proofs.YtokkphocaloelaaGreatDoor

end
section
namespace Go.Proofs.YtokkphocaloelaaGreatDoor
open Go Go.Vc
set_option maxRecDepth 100000
set_option maxHeartbeats 8000000

def lcdOf (p : Pg) : List ByteArray × Nat := (strsL p.segs, p.gran)
end Go.Proofs.YtokkphocaloelaaGreatDoor

end
section
namespace Go.Proofs.YtokkphocaloelaaGreatDoor
open Go Go.Vc
set_option maxRecDepth 100000
set_option maxHeartbeats 8000000

def encQ : Enc Nat := ⟨fun bs n => match bs with
 | [d, h] => [.vec d n, .ptr h 0]
 | _ => [.val (.slice none 0 0), .val (.pointer none)], fun σ bs bs' n hl hk => by
 match bs, bs', hl with
 | [], [], _ => rfl
 | [a], [a'], _ => rfl
 | [a, b], [a', b'], _ =>
   have h0 := hk 0 (by simp)
   have h1 := hk 1 (by simp)
   simp only [List.getD_cons_zero, List.getD_cons_succ] at h0 h1
   simp only [List.map_cons, CV.ren, h0, h1, List.map_nil]
 | a :: b :: c :: r, a' :: b' :: c' :: r', _ => rfl⟩
theorem encQ_len (bs : List Nat) (n : Nat) : (encQ.f bs n).length = 2 := by
 match bs with
 | [] => rfl
 | [a] => rfl
 | [a, b] => rfl
 | a :: b :: c :: r => rfl
def quB (d h n : Nat) : Blk := .vec true 127 encQ [d, h] 2 [n]
theorem and1_u8 {n : Nat} (hn : n < 256) (h : n % 2 = 0) : (IntKind.u8.wrap (((BitVec.ofInt IntKind.u8.bits ((n : Nat) : Int) &&& BitVec.ofInt IntKind.u8.bits ((1 : Nat) : Int)).toNat : Nat) : Int) != ((0 : Nat) : Int)) = false := by
 rw [nand8 hn (by omega), Nat.and_one_is_mod, h]
 rfl
theorem prepQueueW (w0 : World) (m : Bool) {h : List Int} (hb : Byt h) (hf : bt h 5 % 2 = 0) : CallsA Tryz.prog w0 95 [.c (.ptr 0 0), .c (.ptr 8 0)] [rdB 1 3 4 5 m, .dead, .dead, .dead, psB 6 7 .none none false 0 false, .dead, .dead, .dead, hpB h] fun r H =>
   r = .o (.c (.val .nilIface)) ∧ H = [rdB 1 3 4 5 m, .dead, .dead, .dead, psB 6 7 .none none false 0 false, .dead, .dead, .dead, hpB h] := by
 refine callsA_of_ev c95_ ?_
 conv => whnf
 refine CallsA.liftK (H0 := [rdB 1 3 4 5 m, .dead, .dead, .dead, .dead, .dead]) [0, 1, 2, 3, 4, 5] [rdB 1 3 4 5 m, .dead, .dead, .dead, .dead, .dead, .dead, .dead, hpB h] ⟨rfl, rfl, trivial⟩ rfl ⟨rdE (by rfl) (by rfl) (by rfl) (by rfl) m, rfl, l1 _, l2 _, l3 _, l4 _, l5 _, trivial⟩ rfl (getStateW w0 m) ?_
 rintro _ _ ⟨rfl, rfl⟩
 have hb5 := bt_lt hb 5
 conv => whnf
 rw [and1_u8 hb5 hf]
 refine ⟨fun _ => ?_, fun g => zT g⟩
 conv => whnf
 refine Or.inl ?_
 conv => whnf
 refine ⟨fun g => zF g, fun _ => ?_⟩
 conv => whnf
 refine Or.inl ?_
 conv => whnf
 refine ⟨fun g => zF g, fun _ => ?_⟩
 conv => whnf
 refine Or.inl ?_
 conv => whnf
 refine ⟨fun g => zF g, fun _ => ?_⟩
 conv => whnf
 exact Or.inr ⟨[0, 1, 2, 3, 4, 5, 6, 7, 8], .o (.c (.val .nilIface)), [rdB 1 3 4 5 m, .dead, .dead, .dead, psB 6 7 .none none false 0 false, .dead, .dead, .dead, hpB h], ⟨rfl, ⟨rdEE (by rfl) (by rfl) (by rfl) (by rfl) (by rfl) (by rfl) (by rfl) (by rfl) m, rfl, l1 _, l2 _, l3 _, rfl, rfl, l5 _, show 6 < 9 by decide, show 7 < 9 by decide, rfl, rfl, trivial⟩, rfl⟩, rfl, rfl, rfl⟩
theorem enqueueW (w0 : World) (m : Bool) {h X : List Int} (hX : X.length ≤ 1073741824) : CallsA Tryz.prog w0 97 [.c (.ptr 0 0), .c (.ptr 8 0), .c (.vec 9 X.length)] [rdB 1 3 4 5 m, .dead, .dead, .dead, psB 6 9 .none (some X.length) false 0 false, .dead, .dead, .dead, hpB h, rowB X] fun r H =>
   r = .t [] ∧ H = [rdB 1 3 4 5 m, .dead, .dead, .dead, psB 12 9 (.vec 1) (some X.length) false 0 false, .dead, .dead, .dead, hpB h, rowB X, rowB X, hpB h, quB 10 11 X.length] := by
 refine callsA_of_ev c97_ ?_
 conv => whnf
 refine CallsA.liftK (H0 := [rdB 1 3 4 5 m, .dead, .dead, .dead, .dead, .dead]) [0, 1, 2, 3, 4, 5] [rdB 1 3 4 5 m, .dead, .dead, .dead, .dead, .dead, .dead, .dead, hpB h, rowB X, hpB h] ⟨rfl, rfl, rfl, rfl, trivial⟩ rfl ⟨rdE (by rfl) (by rfl) (by rfl) (by rfl) m, rfl, l1 _, l2 _, l3 _, l4 _, l5 _, trivial⟩ rfl (getStateW w0 m) ?_
 rintro _ _ ⟨rfl, rfl⟩
 refine ⟨trivial, ?_⟩
 conv => whnf
 refine CallsA.liftK (H0 := [rdB 1 3 4 5 m, .dead, .dead, .dead, .dead, .dead]) [0, 1, 2, 3, 4, 5] [rdB 1 3 4 5 m, .dead, .dead, .dead, .dead, .dead, .dead, .dead, hpB h, rowB X, hpB h] ⟨(rdB_ren (by rfl) (by rfl) (by rfl) (by rfl) m).symm, rfl, rfl, rfl, trivial⟩ rfl ⟨rdE (by rfl) (by rfl) (by rfl) (by rfl) m, rfl, l1 _, l2 _, l3 _, l4 _, l5 _, trivial⟩ rfl (getStateW w0 m) ?_
 rintro _ _ ⟨rfl, rfl⟩
 refine ⟨trivial, ?_⟩
 conv => whnf
 refine ⟨by decide, Int, encI .u8, [], X, fun _ => rfl, ⟨rfl, Nat.le_refl _, rfl, by rw [List.take_of_length_le (Nat.le_refl _)]⟩, by omega, by omega, ?_⟩
 conv => whnf
 refine ⟨⟨⟨rfl, rfl⟩, trivial⟩, ?_⟩
 conv => whnf
 refine ⟨⟨⟨rfl, rfl⟩, trivial⟩, ?_⟩
 conv => whnf
 refine ⟨_, Ghost.refl w0 _, ?_⟩
 conv => whnf
 refine ⟨by decide, Nat, encQ, [11, 10], [X.length], encQ_len _, ⟨rfl, rfl, rfl⟩, by simp only [List.length_cons, List.length_nil]; omega, by simp only [List.length_cons, List.length_nil]; omega, ?_⟩
 conv => whnf
 refine ⟨trivial, ?_⟩
 conv => whnf
 refine ⟨trivial, ?_⟩
 conv => whnf
 exact Or.inr ⟨[0, 1, 2, 3, 4, 5, 6, 7, 8, 9, 11, 10, 13], .t [], [rdB 1 3 4 5 m, .dead, .dead, .dead, psB 12 9 (.vec 1) (some X.length) false 0 false, .dead, .dead, .dead, hpB h, rowB X, rowB X, hpB h, quB 10 11 X.length], ⟨rfl, ⟨rdEE (by rfl) (by rfl) (by rfl) (by rfl) (by rfl) (by rfl) (by rfl) (by rfl) m, rfl, l1 _, l2 _, l3 _, rfl, rfl, l5 _, show 6 < 14 by decide, show 7 < 14 by decide, rfl, rfl, rfl, rfl, rfl, rfl, rfl, rfl, rfl, rfl, trivial⟩, rfl⟩, rfl, rfl, rfl⟩
theorem l6 (n : Nat) : 6 < n + 7 := by omega
theorem l7 (n : Nat) : 7 < n + 8 := by omega
theorem l9 (n : Nat) : 9 < n + 10 := by omega
theorem l10 (n : Nat) : 10 < n + 11 := by omega
theorem l11 (n : Nat) : 11 < n + 12 := by omega
structure OneP (segs : List (List Int)) (k : Nat) : Prop where
 len : segs.length = k + 1
 k8 : k < 256
 at' : ∀ i x, segs[i]? = some x → x.length ≤ 255 ∧ (x.length = 255 ↔ i < k)
def qpI (k : Nat) := {i : Nat // i ≤ k} ⊕ Unit
def qpSt (m : Bool) (h : List Int) (segs : List (List Int)) (k : Nat) : qpI k → S
 | .inl ⟨0, _⟩ => ⟨[(0, .o (.c (.ptr 0 0))), (1, .o (.c (.vec 10 (k + 1)))), (2, .o (.c (.vec 9 (k + 1)))), (3, .o (.c (.ptr 8 0))), (9, .o (.c (.ptr 4 0))), (22, .o (.c (.vec 10 (k + 1)))), (23, .o (.c (.val (.int .i64 ((k + 1 : Nat) : Int))))), (24, .o (.c (.val (.int .i64 ((0 : Nat) : Int)))))], [rdB 1 3 4 5 m, .dead, .dead, .dead, psB 6 7 .none none false 0 false, .dead, .dead, .dead, hpB h, rowB (lenI segs), outB 11 segs, segB segs]⟩
 | .inl ⟨i + 1, _⟩ => ⟨[(0, .o (.c (.ptr 0 0))), (1, .o (.c (.vec 10 (k + 1)))), (2, .o (.c (.vec 9 (k + 1)))), (3, .o (.c (.ptr 8 0))), (9, .o (.c (.ptr 4 0))), (22, .o (.c (.vec 10 (k + 1)))), (23, .o (.c (.val (.int .i64 ((k + 1 : Nat) : Int))))), (24, .o (.c (.val (.int .i64 ((i + 1 : Nat) : Int)))))], [rdB 1 3 4 5 m, .dead, .dead, .dead, psB 6 12 .none (some (segs.take (i + 1)).flatten.length) false 0 false, .dead, .dead, .dead, hpB h, rowB (lenI segs), outB 11 segs, segB segs, rowB (segs.take (i + 1)).flatten]⟩
 | .inr _ => ⟨[(0, .o (.c (.ptr 0 0))), (3, .o (.c (.ptr 8 0))), (9, .o (.c (.ptr 4 0))), (23, .o (.c (.val (.int .i64 ((k + 1 : Nat) : Int))))), (24, .o (.c (.val (.int .i64 ((k + 1 : Nat) : Int)))))], [rdB 1 3 4 5 m, .dead, .dead, .dead, psB 12 7 (.vec 1) none false 0 false, .dead, .dead, .dead, hpB h, .dead, .dead, .dead, quB 13 14 segs.flatten.length, rowB segs.flatten, hpB h]⟩
def qpM (k : Nat) : qpI k → Nat
 | .inl i => k + 1 - i.1
 | .inr _ => 0
theorem queuePkW (w0 : World) (m : Bool) {h : List Int} {segs : List (List Int)} {k : Nat} (hb : Byt h) (hf : bt h 5 % 2 = 0) (ho : OneP segs k) : CallsA Tryz.prog w0 55 [.c (.ptr 0 0), .c (.vec 10 (k + 1)), .c (.vec 9 (k + 1)), .c (.ptr 8 0)] [rdB 1 3 4 5 m, .dead, .dead, .dead, psB 6 7 .none none false 0 false, .dead, .dead, .dead, hpB h, rowB (lenI segs), outB 11 segs, segB segs] fun r H =>
   r = .o (.c (.val .nilIface)) ∧ H = [rdB 1 3 4 5 m, .dead, .dead, .dead, psB 12 7 (.vec 1) none false (mkLi h 0) (mkHl h false), .dead, .dead, .dead, hpB h, .dead, .dead, .dead, quB 13 14 segs.flatten.length, rowB segs.flatten, hpB h] := by
 have hk8 := ho.k8
 have hFl : segs.flatten.length ≤ 65536 := by
   have : ∀ (l : List (List Int)), (∀ x ∈ l, x.length ≤ 255) → l.flatten.length ≤ 255 * l.length := by
     intro l
     induction l with
     | nil => intro _; exact Nat.le_refl _
     | cons x r ih =>
       intro hx
       rw [List.flatten_cons, List.length_append, List.length_cons]
       have := hx x (List.mem_cons_self ..)
       have := ih fun y hy => hx y (List.mem_cons_of_mem _ hy)
       omega
   have h1 := this segs fun x hx => by
     obtain ⟨i, hi, rfl⟩ := List.mem_iff_getElem.1 hx
     exact (ho.at' i _ (List.getElem?_eq_getElem hi)).1
   rw [ho.len] at h1
   omega
 refine callsA_of_ev c55_ ?_
 conv => whnf
 refine CallsA.liftK (H0 := [rdB 1 3 4 5 m, .dead, .dead, .dead, .dead, .dead]) [0, 1, 2, 3, 4, 5] [rdB 1 3 4 5 m, .dead, .dead, .dead, .dead, .dead, .dead, .dead, hpB h, rowB (lenI segs), outB 11 segs, segB segs] ⟨rfl, rfl, rfl, rfl, rfl, trivial⟩ rfl ⟨rdE (by rfl) (by rfl) (by rfl) (by rfl) m, rfl, l1 _, l2 _, l3 _, l4 _, l5 _, trivial⟩ rfl (getStateW w0 m) ?_
 rintro _ _ ⟨rfl, rfl⟩
 conv => whnf
 refine Or.inr ⟨Unit, fun _ => ⟨[(0, .o (.c (.ptr 0 0))), (1, .o (.c (.vec 10 (k + 1)))), (2, .o (.c (.vec 9 (k + 1)))), (3, .o (.c (.ptr 8 0))), (9, .o (.c (.ptr 4 0)))], [rdB 1 3 4 5 m, .dead, .dead, .dead, psB 6 7 .none none false 0 false, .dead, .dead, .dead, hpB h, rowB (lenI segs), outB 11 segs, segB segs]⟩, ?_, fun _ => ?_⟩
 · conv => whnf
   refine CallsA.lift (H0 := [rdB 1 3 4 5 m, .dead, .dead, .dead, psB 6 7 .none none false 0 false, .dead, .dead, .dead, hpB h]) [0, 1, 2, 3, 4, 5, 6, 7, 8] rfl ⟨rdEE (by rfl) (by rfl) (by rfl) (by rfl) (by rfl) (by rfl) (by rfl) (by rfl) m, rfl, l1 _, l2 _, l3 _, rfl, rfl, l5 _, l6 _, l7 _, rfl, rfl, trivial⟩ rfl (prepQueueW w0 m hb hf) ?_
   rintro _ _ ⟨rfl, rfl⟩
   conv => whnf
   refine ⟨fun g => zF g, fun _ => ?_⟩
   conv => whnf
   exact ⟨(), [0, 1, 2, 3, 4, 5, 6, 7, 8, 9, 10, 11], ⟨rfl, ⟨rdEE (by rfl) (by rfl) (by rfl) (by rfl) (by rfl) (by rfl) (by rfl) (by rfl) m, rfl, l1 _, l2 _, l3 _, rfl, rfl, l5 _, l6 _, l7 _, rfl, rfl, rfl, rfl, rfl, rfl, rfl, rfl, trivial⟩, rfl⟩, rfl, rfl, rfl, rfl, rfl, trivial⟩
 conv => whnf
 refine Or.inr ⟨Unit, fun _ => ⟨[(0, .o (.c (.ptr 0 0))), (3, .o (.c (.ptr 8 0))), (9, .o (.c (.ptr 4 0)))], [rdB 1 3 4 5 m, .dead, .dead, .dead, psB 12 7 (.vec 1) none false 0 false, .dead, .dead, .dead, hpB h, .dead, .dead, .dead, quB 13 14 segs.flatten.length, rowB segs.flatten, hpB h]⟩, ?_, fun _ => ?_⟩
 · conv => whnf
   refine ⟨qpI k, qpSt m h segs k, qpM k, ⟨.inl ⟨0, Nat.zero_le _⟩, [0, 1, 2, 3, 4, 5, 6, 7, 8, 9, 10, 11], ⟨rfl, ⟨rdE (by rfl) (by rfl) (by rfl) (by rfl) m, rfl, l1 _, l2 _, l3 _, rfl, rfl, l5 _, l6 _, l7 _, rfl, rfl, rfl, rfl, rfl, rfl, rfl, rfl, trivial⟩, rfl⟩, rfl, rfl, rfl, rfl, rfl, rfl, ?_, rfl, trivial⟩, fun j => ?_⟩
   · show some (AV.o (.c (.val (.int .i64 _)))) = some (AV.o (.c (.val (.int .i64 ((k + 1 : Nat) : Int)))))
     rfl
   match j with
   | .inr _ =>
     conv => whnf
     refine ⟨fun g => absurd (lt_t g) (Nat.lt_irrefl _), fun _ => ?_⟩
     conv => whnf
     exact ⟨(), [0, 1, 2, 3, 4, 5, 6, 7, 8, 9, 10, 11, 12, 13, 14], ⟨rfl, ⟨rdE (by rfl) (by rfl) (by rfl) (by rfl) m, rfl, l1 _, l2 _, l3 _, rfl, rfl, l5 _, l6 _, l7 _, rfl, rfl, l9 _, l10 _, l11 _, rfl, rfl, rfl, rfl, rfl, rfl, trivial⟩, rfl⟩, rfl, rfl, rfl, trivial⟩
   | .inl ⟨0, hi⟩ =>
     obtain ⟨x, hx⟩ : ∃ x, segs[0]? = some x := ⟨_, List.getElem?_eq_getElem (by rw [ho.len]; omega)⟩
     have hat := ho.at' 0 x hx
     have hxl := hat.1
     have hsz : (lenI segs)[0]? = some ((x.length : Nat) : Int) := by unfold lenI; rw [List.getElem?_map, hx]; rfl
     have hrow : (turns (segs.map List.length))[0]? = some (0, x.length) := by rw [turns_get, List.getElem?_map, hx]; rfl
     have htk : (segs.take (0 + 1)).flatten = ([] : List Int) ++ x := by
       rw [List.take_add_one, hx, List.flatten_append]
       simp
     have hfz : (([] : List Int) ++ x).length ≤ 65536 := by
       rw [← htk]
       have e1 : segs.flatten = (segs.take (0 + 1)).flatten ++ (segs.drop (0 + 1)).flatten := by rw [← List.flatten_append, List.take_append_drop]
       have e2 := congrArg List.length e1
       rw [List.length_append] at e2
       omega
     rw [List.length_append] at hfz
     conv => whnf
     refine ⟨fun _ => ?_, fun g => absurd (lt_f (a := 0) (b := k + 1) g) (by omega)⟩
     conv => whnf
     refine Or.inl ?_
     conv => whnf
     refine ⟨⟨by omega, by omega⟩, ?_⟩
     conv => whnf
     refine ⟨(0, x.length), hrow, ?_⟩
     conv => whnf
     refine ⟨⟨by omega, by omega⟩, ?_⟩
     conv => whnf
     refine ⟨((x.length : Nat) : Int), hsz, ?_⟩
     conv => whnf
     refine Or.inl ?_
     conv => whnf
     refine ⟨fun g => zF g, fun _ => ?_⟩
     conv => whnf
     refine ⟨by decide, Int, encI .u8, [], x, fun _ => rfl, ⟨rfl, x, hx, Nat.le_refl _, rfl, by rw [List.take_of_length_le (Nat.le_refl _)]⟩, by omega, by omega, ?_⟩
     conv => whnf
     refine Or.inl ?_
     conv => whnf
     refine ⟨fun g => ?_, fun g => ?_⟩
     · have g : x.length = 255 := beq_t (b := 255) g
       have hik := hat.2.1 g
       conv => whnf
       refine ⟨.inl ⟨0 + 1, by omega⟩, ⟨[0, 1, 2, 3, 4, 5, 6, 7, 8, 9, 10, 11, 12], ⟨rfl, ⟨rdE (by rfl) (by rfl) (by rfl) (by rfl) m, rfl, l1 _, l2 _, l3 _, ?_, rfl, l5 _, l6 _, l7 _, rfl, rfl, rfl, rfl, rfl, rfl, rfl, rfl, ?_, rfl, trivial⟩, rfl⟩, rfl, rfl, rfl, rfl, rfl, rfl, rfl, ?_, trivial⟩, ?_⟩
       · show some (psB 6 12 .none (some x.length) false 0 false) = some (psB 6 12 .none (some (segs.take (0 + 1)).flatten.length) false 0 false)
         rw [htk]
         rfl
       · show some (rowB x) = some (rowB (segs.take (0 + 1)).flatten)
         rw [htk]
         rfl
       · refine eq_i64 ?_
         rw [IntKind.wrap_i64]
         omega
       · show k + 1 - (0 + 1) < k + 1 - 0
         omega
     · have g : x.length ≠ 255 := beq_f (b := 255) g
       have hik : 0 = k := by
         have h1 : ¬ 0 < k := fun c => g (hat.2.2 c)
         omega
       have hall : segs.flatten = x := by
         have : segs.take (0 + 1) = segs := List.take_of_length_le (by rw [ho.len]; omega)
         rw [this] at htk
         rw [htk]
         rfl
       conv => whnf
       refine CallsA.lift (H0 := [rdB 1 3 4 5 m, .dead, .dead, .dead, psB 6 9 .none (some x.length) false 0 false, .dead, .dead, .dead, hpB h, rowB x]) [0, 1, 2, 3, 4, 5, 6, 7, 8, 12] rfl ⟨rdE (by rfl) (by rfl) (by rfl) (by rfl) m, rfl, l1 _, l2 _, l3 _, rfl, rfl, l5 _, l6 _, l7 _, rfl, rfl, rfl, rfl, trivial⟩ rfl (enqueueW w0 m (h := h) (X := x) (by omega)) ?_
       rintro _ _ ⟨rfl, rfl⟩
       conv => whnf
       refine ⟨.inr (), ⟨[0, 1, 2, 3, 4, 5, 6, 7, 8, 9, 10, 11, 15, 13, 14], ⟨rfl, ⟨rdEE (by rfl) (by rfl) (by rfl) (by rfl) (by rfl) (by rfl) (by rfl) (by rfl) m, rfl, l1 _, l2 _, l3 _, rfl, rfl, l5 _, l6 _, l7 _, rfl, rfl, l9 _, l10 _, l11 _, ?_, rfl, ?_, rfl, rfl, rfl, trivial⟩, rfl⟩, rfl, rfl, rfl, rfl, ?_, trivial⟩, ?_⟩
       · show some (quB 13 14 x.length) = some (quB 13 14 segs.flatten.length)
         rw [hall]
       · show some (rowB x) = some (rowB segs.flatten)
         rw [hall]
       · refine eq_i64 ?_
         rw [IntKind.wrap_i64]
         omega
       · show 0 < k + 1 - 0
         omega
   | .inl ⟨i + 1, hi⟩ =>
     obtain ⟨x, hx⟩ : ∃ x, segs[(i + 1)]? = some x := ⟨_, List.getElem?_eq_getElem (by rw [ho.len]; omega)⟩
     have hat := ho.at' (i + 1) x hx
     have hxl := hat.1
     have hsz : (lenI segs)[(i + 1)]? = some ((x.length : Nat) : Int) := by unfold lenI; rw [List.getElem?_map, hx]; rfl
     have hrow : (turns (segs.map List.length))[(i + 1)]? = some ((i + 1), x.length) := by rw [turns_get, List.getElem?_map, hx]; rfl
     have htk : (segs.take ((i + 1) + 1)).flatten = (segs.take (i + 1)).flatten ++ x := by
       rw [List.take_add_one, hx, List.flatten_append]
       simp
     have hfz : ((segs.take (i + 1)).flatten ++ x).length ≤ 65536 := by
       rw [← htk]
       have e1 : segs.flatten = (segs.take ((i + 1) + 1)).flatten ++ (segs.drop ((i + 1) + 1)).flatten := by rw [← List.flatten_append, List.take_append_drop]
       have e2 := congrArg List.length e1
       rw [List.length_append] at e2
       omega
     rw [List.length_append] at hfz
     conv => whnf
     refine ⟨fun _ => ?_, fun g => absurd (lt_f (a := (i + 1)) (b := k + 1) g) (by omega)⟩
     conv => whnf
     refine Or.inl ?_
     conv => whnf
     refine ⟨⟨by omega, by omega⟩, ?_⟩
     conv => whnf
     refine ⟨((i + 1), x.length), hrow, ?_⟩
     conv => whnf
     refine ⟨⟨by omega, by omega⟩, ?_⟩
     conv => whnf
     refine ⟨((x.length : Nat) : Int), hsz, ?_⟩
     conv => whnf
     refine Or.inl ?_
     conv => whnf
     refine ⟨fun g => zF g, fun _ => ?_⟩
     conv => whnf
     refine ⟨rfl, x, ⟨rfl, x, hx, Nat.le_refl _, rfl, by rw [List.take_of_length_le (Nat.le_refl _)]⟩, by rw [List.length_append]; omega, by rw [List.length_append]; omega, ?_⟩
     conv => whnf
     refine Or.inl ?_
     conv => whnf
     refine ⟨fun g => ?_, fun g => ?_⟩
     · have g : x.length = 255 := beq_t (b := 255) g
       have hik := hat.2.1 g
       conv => whnf
       refine ⟨.inl ⟨(i + 1) + 1, by omega⟩, ⟨[0, 1, 2, 3, 4, 5, 6, 7, 8, 9, 10, 11, 13], ⟨rfl, ⟨rdE (by rfl) (by rfl) (by rfl) (by rfl) m, rfl, l1 _, l2 _, l3 _, ?_, rfl, l5 _, l6 _, l7 _, rfl, rfl, rfl, rfl, rfl, rfl, rfl, rfl, ?_, rfl, trivial⟩, rfl⟩, rfl, rfl, rfl, rfl, rfl, rfl, rfl, ?_, trivial⟩, ?_⟩
       · show some (psB 6 13 .none (some ((segs.take (i + 1)).flatten ++ x).length) false 0 false) = some (psB 6 13 .none (some (segs.take ((i + 1) + 1)).flatten.length) false 0 false)
         rw [htk]
       · show some (rowB ((segs.take (i + 1)).flatten ++ x)) = some (rowB (segs.take ((i + 1) + 1)).flatten)
         rw [htk]
       · refine eq_i64 ?_
         rw [IntKind.wrap_i64]
         omega
       · show k + 1 - ((i + 1) + 1) < k + 1 - (i + 1)
         omega
     · have g : x.length ≠ 255 := beq_f (b := 255) g
       have hik : (i + 1) = k := by
         have h1 : ¬ (i + 1) < k := fun c => g (hat.2.2 c)
         omega
       have hall : segs.flatten = ((segs.take (i + 1)).flatten ++ x) := by
         have : segs.take ((i + 1) + 1) = segs := List.take_of_length_le (by rw [ho.len]; omega)
         rw [this] at htk
         rw [htk]
       conv => whnf
       refine CallsA.lift (H0 := [rdB 1 3 4 5 m, .dead, .dead, .dead, psB 6 9 .none (some ((segs.take (i + 1)).flatten ++ x).length) false 0 false, .dead, .dead, .dead, hpB h, rowB ((segs.take (i + 1)).flatten ++ x)]) [0, 1, 2, 3, 4, 5, 6, 7, 8, 13] rfl ⟨rdE (by rfl) (by rfl) (by rfl) (by rfl) m, rfl, l1 _, l2 _, l3 _, rfl, rfl, l5 _, l6 _, l7 _, rfl, rfl, rfl, rfl, trivial⟩ rfl (enqueueW w0 m (h := h) (X := ((segs.take (i + 1)).flatten ++ x)) (by rw [List.length_append]; omega)) ?_
       rintro _ _ ⟨rfl, rfl⟩
       conv => whnf
       refine ⟨.inr (), ⟨[0, 1, 2, 3, 4, 5, 6, 7, 8, 9, 10, 11, 16, 14, 15], ⟨rfl, ⟨rdEE (by rfl) (by rfl) (by rfl) (by rfl) (by rfl) (by rfl) (by rfl) (by rfl) m, rfl, l1 _, l2 _, l3 _, rfl, rfl, l5 _, l6 _, l7 _, rfl, rfl, l9 _, l10 _, l11 _, ?_, rfl, ?_, rfl, rfl, rfl, trivial⟩, rfl⟩, rfl, rfl, rfl, rfl, ?_, trivial⟩, ?_⟩
       · show some (quB 14 15 ((segs.take (i + 1)).flatten ++ x).length) = some (quB 14 15 segs.flatten.length)
         rw [hall]
       · show some (rowB ((segs.take (i + 1)).flatten ++ x)) = some (rowB segs.flatten)
         rw [hall]
       · refine eq_i64 ?_
         rw [IntKind.wrap_i64]
         omega
       · show 0 < k + 1 - (i + 1)
         omega
 conv => whnf
 refine CallsA.liftK (H0 := [rdB 1 3 4 5 m, .dead, .dead, .dead, psB 7 8 (.vec 1) none false 0 false, .dead, hpB h, .dead, .dead]) [0, 1, 2, 3, 4, 5, 8, 12, 7] [rdB 1 3 4 5 m, .dead, .dead, .dead, psB 12 7 (.vec 1) none false 0 false, .dead, .dead, .dead, hpB h, .dead, .dead, .dead, .dead, rowB segs.flatten, hpB h] ⟨rfl, rfl, rfl, rfl, rfl, trivial⟩ rfl ⟨rdE (by rfl) (by rfl) (by rfl) (by rfl) m, rfl, l1 _, l2 _, l3 _, rfl, rfl, l5 _, rfl, rfl, show 12 < 15 by decide, l7 _, trivial⟩ rfl (markReadW w0 m (.vec 1) none false 0 false) ?_
 rintro _ _ ⟨rfl, rfl⟩
 conv => whnf
 exact Or.inr ⟨[0, 1, 2, 3, 4, 5, 6, 7, 8, 9, 10, 11, 12, 13, 14], .o (.c (.val .nilIface)), [rdB 1 3 4 5 m, .dead, .dead, .dead, psB 12 7 (.vec 1) none false (mkLi h 0) (mkHl h false), .dead, .dead, .dead, hpB h, .dead, .dead, .dead, quB 13 14 segs.flatten.length, rowB segs.flatten, hpB h], ⟨rfl, ⟨rdEE (by rfl) (by rfl) (by rfl) (by rfl) (by rfl) (by rfl) (by rfl) (by rfl) m, rfl, l1 _, l2 _, l3 _, rfl, rfl, l5 _, l6 _, l7 _, rfl, rfl, l9 _, l10 _, l11 _, rfl, rfl, rfl, rfl, rfl, rfl, trivial⟩, rfl⟩, rfl, rfl, rfl⟩
end Go.Proofs.YtokkphocaloelaaGreatDoor

end
section
namespace Go.Proofs.YtokkphocaloelaaGreatDoor
open Go Go.Vc
set_option maxRecDepth 100000
set_option maxHeartbeats 8000000

theorem nwrap16 {n : Nat} (h : n < 65536) : IntKind.u16.wrap (n : Int) = n := by rw [IntKind.wrap_u16]; omega
theorem nor16 {a b : Nat} (ha : a < 65536) (hb : b < 65536) : IntKind.u16.wrap (((BitVec.ofInt IntKind.u16.bits (a : Int) ||| BitVec.ofInt IntKind.u16.bits (b : Int)).toNat : Nat) : Int) = ((a ||| b : Nat) : Int) := by
 have e : (BitVec.ofInt IntKind.u16.bits (a : Int) ||| BitVec.ofInt IntKind.u16.bits (b : Int)).toNat = a ||| b := by
   show (BitVec.ofInt 16 (a : Int) ||| BitVec.ofInt 16 (b : Int)).toNat = _
   rw [BitVec.toNat_or, BitVec.toNat_ofInt, BitVec.toNat_ofInt]
   congr 1 <;> omega
 rw [e]
 exact nwrap16 (Nat.or_lt_two_pow (n := 16) ha hb)
theorem orS16 {x y s : Nat} (hx : x < 2 ^ s) (hy : y < 256) (hs : s ≤ 8) : IntKind.u16.wrap (((BitVec.ofInt IntKind.u16.bits (x : Int) ||| BitVec.ofInt IntKind.u16.bits (IntKind.u16.wrap (IntKind.u16.wrap (y : Int) * (2 : Int) ^ min s IntKind.u16.bits))).toNat : Nat) : Int) = ((x + y * 2 ^ s : Nat) : Int) := by
 have h56 : 2 ^ s ≤ 2 ^ 8 := Nat.pow_le_pow_right (by omega) hs
 have hm : y * 2 ^ s ≤ 255 * 2 ^ 8 := Nat.mul_le_mul (by omega) h56
 rw [nwrap16 (n := y) (by omega), nshlk .u16 y s (by show s ≤ 16; omega), nwrap16 (n := y * 2 ^ s) (by omega), nor16 (by omega) (by omega), lorS hx]
theorem take_n2 {l : List Int} {o : Nat} {a0 a1 : Int} (h0 : l[o]? = some a0) (h1 : l[o + 1]? = some a1) : (l.drop o).take 2 = [a0, a1] := by
 apply List.ext_getElem?
 intro i
 rw [List.getElem?_take, List.getElem?_drop]
 match i with
 | 0 => exact h0
 | 1 => exact h1
 | i + 2 => rw [if_neg (by omega)]; rfl
theorem av16 {x y : Int} (h : x = y) : AV.o (A1.c (CV.val (.int .u16 x))) = AV.o (A1.c (CV.val (.int .u16 y))) := by rw [h]
theorem le16W (w0 : World) {l : List Int} (hl : Byt l) {o c : Nat} (h : o + 2 ≤ l.length) : CallsA Tryz.prog w0 141 [.a [], .c (.sli 0 1 o 2 c)] [rowB l] fun r H => r = .o (.c (.val (.int .u16 ((le ((l.drop o).take 2) : Nat) : Int)))) ∧ H = [rowB l] := by
 obtain ⟨a0, h0, l0⟩ := byt_at hl (i := o) (by omega)
 obtain ⟨a1, h1, l1⟩ := byt_at hl (i := o + 1) (by omega)
 rw [take_n2 h0 h1]
 refine callsA_of_ev c141_ ?_
 conv => whnf
 refine ⟨⟨by decide, by decide⟩, ?_⟩
 conv => whnf
 refine ⟨_, h1, ?_⟩
 conv => whnf
 refine ⟨⟨by decide, by decide⟩, ?_⟩
 conv => whnf
 refine ⟨_, h0, ?_⟩
 conv => whnf
 refine ⟨⟨by decide, by decide⟩, ?_⟩
 conv => whnf
 refine ⟨_, h1, ?_⟩
 conv => whnf
 refine Or.inr ⟨[0], .o (.c (.val (.int .u16 ((le [(a0 : Int), (a1 : Int)] : Nat) : Int)))), [rowB l], ⟨rfl, ⟨rfl, rfl, trivial⟩, rfl⟩, ?_, rfl, rfl⟩
 refine av16 ?_
 rw [nwrap16 (n := a0) (by omega), orS16 (x := a0) (y := a1) (s := 8) (by omega) l1 (by omega)]
 simp only [le, Int.toNat_natCast]
 omega
def ohB (X : List Int) : Blk := .cells 105 [u8 X 18, u8 X 9, .val (.int .u16 ((le ((X.drop 16).take 2) : Nat) : Int)), .val (.int .u16 ((le ((X.drop 10).take 2) : Nat) : Int)), .val (.int .u32 ((le ((X.drop 12).take 4) : Nat) : Int)), u8 X 8]
def headErr (k : Nat) : Prop := k = 8 ∨ k = 9 ∨ k = 10 ∨ k = 11
theorem headErr.lt {k : Nat} (h : headErr k) : k < 12 ∧ k ≠ 3 ∧ k ≠ 6 ∧ k ≠ 0 := by unfold headErr at h; omega
theorem parseIDW {w0 : World} {t : TypeId} {v : Nat → Value} (he : Errs w0 t v) {h X : List Int} (hh : Byt h) (hl : h.length = 27) (hX : Byt X) (hsig : h.take 4 = [79, 103, 103, 83]) (hfl : bt h 5 = 2) :
   CallsA Tryz.prog w0 132 [.c (.ptr 0 0), .c (.vec 1 X.length)] [hpB h, rowB X] fun r H =>
     ((19 ≤ X.length ∧ X.take 8 = opusHead) ∧ r = .t [.c (.ptr 2 0), .c (.val .nilIface)] ∧ H = [hpB h, rowB X, ohB X]) ∨
     (¬ (19 ≤ X.length ∧ X.take 8 = opusHead) ∧ ∃ k, headErr k ∧ r = .t [.c (.val (.pointer none)), .c (.val (.iface t (v k)))] ∧ H = [.dead, .dead]) := by
 have hs0 : ((bt h 0 : Nat) : Int) = 79 ∧ ((bt h 1 : Nat) : Int) = 103 ∧ ((bt h 2 : Nat) : Int) = 103 ∧ ((bt h 3 : Nat) : Int) = 83 := by
   have e : ∀ i, i < 4 → ([79, 103, 103, 83] : List Int)[i]? = some ((bt h i : Nat) : Int) := fun i hi => by rw [← hsig, List.getElem?_take, if_pos hi, bt_at hh (by omega)]
   exact ⟨(Option.some.inj (e 0 (by decide))).symm, (Option.some.inj (e 1 (by decide))).symm, (Option.some.inj (e 2 (by decide))).symm, (Option.some.inj (e 3 (by decide))).symm⟩
 have hstr : strOf [((bt h 0 : Nat) : Int), ((bt h 1 : Nat) : Int), ((bt h 2 : Nat) : Int), ((bt h 3 : Nat) : Int)] = ByteArray.mk #[79, 103, 103, 83] := by
   rw [hs0.1, hs0.2.1, hs0.2.2.1, hs0.2.2.2]
   rfl
 refine callsA_of_ev c132_ ?_
 conv => whnf
 refine Or.inl ?_
 conv => whnf
 refine ⟨⟨⟨by decide, by decide⟩, by decide⟩, ?_⟩
 conv => whnf
 refine ⟨trivial, [((bt h 0 : Nat) : Int), ((bt h 1 : Nat) : Int), ((bt h 2 : Nat) : Int), ((bt h 3 : Nat) : Int)], ⟨rfl, rfl, rfl⟩, ?_⟩
 rw [hstr]
 conv => whnf
 rw [neq_self]
 refine ⟨fun g => zF g, fun _ => ?_⟩
 conv => whnf
 refine Or.inl ?_
 conv => whnf
 rw [hfl, neq_nat]
 refine ⟨fun g => zF g, fun _ => ?_⟩
 conv => whnf
 refine Or.inl ?_
 conv => whnf
 refine ⟨fun g1 => ?_, fun g1 => ?_⟩
 · have g1 : X.length < 19 := lt_t g1
   conv => whnf
   refine ⟨.iface t (v 10), ?_⟩
   conv => whnf
   refine ⟨he.get 10 (by decide) (by decide) (by decide), ?_⟩
   conv => whnf
   refine ⟨rfl, ?_⟩
   conv => whnf
   exact Or.inr ⟨[0, 1], .t [.c (.val (.pointer none)), .c (.val (.iface t (v 10)))], [.dead, .dead], ⟨rfl, ⟨l0 _, l1 _, trivial⟩, rfl⟩, rfl, .inr ⟨(fun c => by omega), 10, (.inr (.inr (.inl rfl))), rfl, rfl⟩⟩
 have g1 : 19 ≤ X.length := lt_f g1
 conv => whnf
 refine Or.inl ?_
 conv => whnf
 refine ⟨⟨by decide, by decide, by omega⟩, .inl ⟨fun c _ _ => ?_, fun h => absurd h (by omega), fun h => absurd h (by omega)⟩⟩
 conv => whnf
 refine ⟨trivial, X.take 8, ⟨rfl, rfl, by show 0 + 8 ≤ X.length; omega, by rw [List.length_take]; show min 8 X.length = 8; omega, rfl⟩, ?_⟩
 conv => whnf
 refine ⟨fun g2 => ?_, fun g2 => ?_⟩
 · have g2 := strq_f g2
   have g3 : X.take 8 ≠ opusHead := fun c => g2 (by rw [c]; rfl)
   conv => whnf
   refine ⟨.iface t (v 11), ?_⟩
   conv => whnf
   refine ⟨he.get 11 (by decide) (by decide) (by decide), ?_⟩
   conv => whnf
   refine ⟨rfl, ?_⟩
   conv => whnf
   exact Or.inr ⟨[0, 1], .t [.c (.val (.pointer none)), .c (.val (.iface t (v 11)))], [.dead, .dead], ⟨rfl, ⟨l0 _, l1 _, trivial⟩, rfl⟩, rfl, .inr ⟨(fun c => g3 c.2), 11, (.inr (.inr (.inr rfl))), rfl, rfl⟩⟩
 have g2 := strq_t g2
 have hop : Byt opusHead := fun x hx => by
   simp only [opusHead, List.mem_cons, List.not_mem_nil, or_false] at hx
   omega
 have g3 : X.take 8 = opusHead := str_inj (hX.take 8) hop (g2.trans rfl)
 have h8 := bt_at hX (i := 8) (by omega)
 have h9 := bt_at hX (i := 9) (by omega)
 have h18 := bt_at hX (i := 18) (by omega)
 conv => whnf
 refine ⟨⟨by decide, by omega⟩, ?_⟩
 conv => whnf
 refine ⟨_, h8, ?_⟩
 conv => whnf
 refine ⟨⟨by decide, by omega⟩, ?_⟩
 conv => whnf
 refine ⟨_, h9, ?_⟩
 conv => whnf
 refine ⟨⟨by decide, by decide, by omega⟩, .inl ⟨fun c1 _ _ => ?_, fun h => absurd h (by omega), fun h => absurd h (by omega)⟩⟩
 conv => whnf
 refine ⟨⟨by decide, by decide, by omega⟩, .inl ⟨fun c2 _ _ => ?_, fun h => absurd h (by omega), fun h => absurd h (by omega)⟩⟩
 conv => whnf
 refine ⟨⟨by decide, by decide, by omega⟩, .inl ⟨fun c3 _ _ => ?_, fun h => absurd h (by omega), fun h => absurd h (by omega)⟩⟩
 conv => whnf
 refine ⟨⟨by decide, by omega⟩, ?_⟩
 conv => whnf
 refine ⟨_, h18, ?_⟩
 conv => whnf
 refine CallsA.lift (H0 := [rowB X]) [1] rfl ⟨rfl, rfl, trivial⟩ rfl (le16W w0 hX (o := 10) (c := c1 - 10) (by omega)) ?_
 rintro _ _ ⟨rfl, rfl⟩
 refine ⟨?_, ?_⟩
 · conv => whnf
   repeat' (first | exact trivial | exact ⟨rfl, rfl⟩ | exact ⟨_, h8, rfl, rfl⟩ | exact ⟨_, h9, rfl, rfl⟩ | exact ⟨_, h18, rfl, rfl⟩ | refine ⟨?_, ?_⟩)
 conv => whnf
 refine CallsA.lift (H0 := [rowB X]) [1] rfl ⟨rfl, rfl, trivial⟩ rfl (le32W w0 hX (o := 12) (c := c2 - 12) (by omega)) ?_
 rintro _ _ ⟨rfl, rfl⟩
 refine ⟨?_, ?_⟩
 · conv => whnf
   repeat' (first | exact trivial | exact ⟨rfl, rfl⟩ | exact ⟨_, h8, rfl, rfl⟩ | exact ⟨_, h9, rfl, rfl⟩ | exact ⟨_, h18, rfl, rfl⟩ | refine ⟨?_, ?_⟩)
 conv => whnf
 refine CallsA.lift (H0 := [rowB X]) [1] rfl ⟨rfl, rfl, trivial⟩ rfl (le16W w0 hX (o := 16) (c := c3 - 16) (by omega)) ?_
 rintro _ _ ⟨rfl, rfl⟩
 refine ⟨?_, ?_⟩
 · conv => whnf
   repeat' (first | exact trivial | exact ⟨rfl, rfl⟩ | exact ⟨_, h8, rfl, rfl⟩ | exact ⟨_, h9, rfl, rfl⟩ | exact ⟨_, h18, rfl, rfl⟩ | refine ⟨?_, ?_⟩)
 conv => whnf
 refine ⟨trivial, ?_⟩
 conv => whnf
 exact Or.inl (.inl ⟨⟨g1, g3⟩, rfl, rfl⟩)
end Go.Proofs.YtokkphocaloelaaGreatDoor

end
section
namespace Go.Proofs.YtokkphocaloelaaGreatDoor
open Go Go.Vc
set_option maxRecDepth 100000
set_option maxHeartbeats 8000000

def mpB (b : Nat) (X : List Int) : Blk := .cells 102 [u8 X 19, u8 X 20, .vec b (X.length - 21), .val (.slice none 0 0)]
def d8 : List Blk := [.dead, .dead, .dead, .dead, .dead, .dead, .dead, .dead]
theorem parseStreamW {w0 : World} {t : TypeId} {v : Nat → Value} (he : Errs w0 t v) {X : List Int} (hX : Byt X) (_hXl : X.length ≤ 65536) : CallsA Tryz.prog w0 142 [.c (.ptr 0 0), .c (.ptr 6 0), .c (.vec 7 X.length)] [rdB 1 3 4 5 false, .dead, .dead, .dead, .dead, .dead, ohB X, rowB X] fun r H =>
   (X.length = 21 + bt X 9 ∧ r = .o (.c (.val .nilIface)) ∧ H = [rdB 1 3 4 9 true, .dead, .dead, .dead, .dead, .dead, ohB X, rowB X, rowB (X.drop 21), mpB 8 X]) ∨
   (X.length ≠ 21 + bt X 9 ∧ r = .o (.c (.val (.iface t (v 10)))) ∧ H = d8) := by
 have hb9 := bt_lt hX 9
 refine callsA_of_ev c142_ ?_
 conv => whnf
 refine Or.inl ?_
 conv => whnf
 have hw : IntKind.i64.wrap (((21 : Nat) : Int) + IntKind.i64.wrap ((bt X 9 : Nat) : Int)) = ((21 + bt X 9 : Nat) : Int) := by rw [nwrapi (n := bt X 9) (by omega), nadd, nwrapi (by omega)]
 rw [hw]
 refine ⟨fun g => ?_, fun g => ?_⟩
 · have g := of_bne g
   conv => whnf
   refine ⟨.iface t (v 10), ?_⟩
   conv => whnf
   refine ⟨he.get 10 (by decide) (by decide) (by decide), ?_⟩
   conv => whnf
   refine ⟨rfl, ?_⟩
   conv => whnf
   exact Or.inr ⟨[0, 1, 2, 3, 4, 5, 6, 7], .o (.c (.val (.iface t (v 10)))), d8, ⟨rfl, ⟨l0 _, l1 _, l2 _, l3 _, l4 _, l5 _, l6 _, l7 _, trivial⟩, rfl⟩, rfl, .inr ⟨g, rfl, rfl⟩⟩
 have g := of_bne_f g
 have h19 := bt_at hX (i := 19) (by omega)
 have h20 := bt_at hX (i := 20) (by omega)
 conv => whnf
 refine ⟨⟨by decide, by omega⟩, ?_⟩
 conv => whnf
 refine ⟨_, h19, ?_⟩
 conv => whnf
 refine ⟨⟨by decide, by omega⟩, ?_⟩
 conv => whnf
 refine ⟨_, h20, ?_⟩
 conv => whnf
 refine ⟨⟨by decide, by omega, Int.le_refl _⟩, .inl ⟨fun c _ _ => ?_, fun hl => ?_, fun h h0 => by omega⟩⟩
 · conv => whnf
   refine ⟨by decide, Int, encI .u8, [], X.drop 21, fun _ => rfl, ⟨rfl, rfl, by show 21 + (X.length - 21) ≤ X.length; omega, by rw [List.length_drop]; rfl, by show _ = flat (encI .u8) [] ((X.drop 21).take (X.length - 21)); rw [List.take_of_length_le (by rw [List.length_drop]; omega)]⟩, by rw [List.length_drop]; omega, by rw [List.length_drop]; omega, ?_⟩
   conv => whnf
   refine ⟨?_, ?_⟩
   · conv => whnf
     repeat' (first | exact trivial | exact ⟨rfl, rfl⟩ | exact ⟨_, h19, rfl, rfl⟩ | exact ⟨_, h20, rfl, rfl⟩ | refine ⟨?_, ?_⟩)
   conv => whnf
   refine ⟨trivial, ?_⟩
   conv => whnf
   refine ⟨trivial, ?_⟩
   conv => whnf
   exact Or.inr ⟨[0, 1, 2, 3, 4, 5, 6, 7, 8, 9], .o (.c (.val .nilIface)), [rdB 1 3 4 9 true, .dead, .dead, .dead, .dead, .dead, ohB X, rowB X, rowB (X.drop 21), mpB 8 X], ⟨rfl, ⟨rfl, rfl, l1 _, l2 _, l3 _, l4 _, l5 _, rfl, rfl, rfl, rfl, rfl, rfl, by
     show some (Blk.cells 102 [u8 X 19, u8 X 20, .vec 8 (X.drop 21).length, .val (.slice none 0 0)]) = some (Blk.cells 102 [u8 X 19, u8 X 20, .vec 8 (X.length - 21), .val (.slice none 0 0)])
     rw [List.length_drop], rfl, trivial⟩, rfl⟩, rfl, .inl ⟨g, rfl, rfl⟩⟩
 · have hl : X.length = 21 := by omega
   have hnil : X.drop 21 = [] := List.drop_of_length_le (by omega)
   conv => whnf
   refine ⟨by decide, Int, encI .u8, [], X.drop 21, fun _ => rfl, ⟨rfl, rfl, by show 0 + 0 ≤ X.length; omega, by rw [hnil]; rfl, by rw [hnil]; rfl⟩, by rw [List.length_drop]; omega, by rw [List.length_drop]; omega, ?_⟩
   conv => whnf
   refine ⟨?_, ?_⟩
   · conv => whnf
     repeat' (first | exact trivial | exact ⟨rfl, rfl⟩ | exact ⟨_, h19, rfl, rfl⟩ | exact ⟨_, h20, rfl, rfl⟩ | refine ⟨?_, ?_⟩)
   conv => whnf
   refine ⟨trivial, ?_⟩
   conv => whnf
   refine ⟨trivial, ?_⟩
   conv => whnf
   exact Or.inr ⟨[0, 1, 2, 3, 4, 5, 6, 7, 8, 9], .o (.c (.val .nilIface)), [rdB 1 3 4 9 true, .dead, .dead, .dead, .dead, .dead, ohB X, rowB X, rowB (X.drop 21), mpB 8 X], ⟨rfl, ⟨rfl, rfl, l1 _, l2 _, l3 _, l4 _, l5 _, rfl, rfl, rfl, rfl, rfl, rfl, by
     show some (Blk.cells 102 [u8 X 19, u8 X 20, .vec 8 (X.drop 21).length, .val (.slice none 0 0)]) = some (Blk.cells 102 [u8 X 19, u8 X 20, .vec 8 (X.length - 21), .val (.slice none 0 0)])
     rw [List.length_drop], rfl, trivial⟩, rfl⟩, rfl, .inl ⟨g, rfl, rfl⟩⟩
def okM (X : List Int) : Prop := (bt X 18 = 0 ∧ X.length = 19) ∨ (bt X 18 ≠ 0 ∧ X.length = 21 + bt X 9)
theorem parseMapW {w0 : World} {t : TypeId} {v : Nat → Value} (he : Errs w0 t v) {X : List Int} (hX : Byt X) (hXl : X.length ≤ 65536) (hm : bt X 18 = 0 ∨ bt X 18 = 1 ∨ bt X 18 = 255) : CallsA Tryz.prog w0 133 [.c (.ptr 0 0), .c (.ptr 6 0), .c (.vec 7 X.length)] [rdB 1 3 4 5 false, .dead, .dead, .dead, .dead, .dead, ohB X, rowB X] fun r H =>
   (bt X 18 = 0 ∧ X.length = 19 ∧ r = .o (.c (.val .nilIface)) ∧ H = [rdB 1 3 4 5 false, .dead, .dead, .dead, .dead, .dead, ohB X, rowB X]) ∨
   (bt X 18 ≠ 0 ∧ X.length = 21 + bt X 9 ∧ r = .o (.c (.val .nilIface)) ∧ H = [rdB 1 3 4 9 true, .dead, .dead, .dead, .dead, .dead, ohB X, rowB X, rowB (X.drop 21), mpB 8 X]) ∨
   (¬ okM X ∧ r = .o (.c (.val (.iface t (v 10)))) ∧ H = d8) := by
 refine callsA_of_ev c133_ ?_
 conv => whnf
 refine ⟨fun g => ?_, fun g => ?_⟩
 · have g : bt X 18 = 0 := beq_t (b := 0) g
   conv => whnf
   refine Or.inl ?_
   conv => whnf
   refine ⟨fun g1 => ?_, fun g1 => ?_⟩
   · have g1 : X.length ≠ 19 := of_bne (b := 19) g1
     conv => whnf
     refine ⟨.iface t (v 10), ?_⟩
     conv => whnf
     refine ⟨he.get 10 (by decide) (by decide) (by decide), ?_⟩
     conv => whnf
     refine ⟨rfl, ?_⟩
     conv => whnf
     exact Or.inr ⟨[0, 1, 2, 3, 4, 5, 6, 7], .o (.c (.val (.iface t (v 10)))), d8, ⟨rfl, ⟨l0 _, l1 _, l2 _, l3 _, l4 _, l5 _, l6 _, l7 _, trivial⟩, rfl⟩, rfl, .inr (.inr ⟨fun h => h.elim (fun h => g1 h.2) (fun h => h.1 g), rfl, rfl⟩)⟩
   · have g1 : X.length = 19 := of_bne_f (b := 19) g1
     conv => whnf
     exact Or.inl (.inl ⟨g, g1, rfl, rfl⟩)
 have g : bt X 18 ≠ 0 := beq_f (b := 0) g
 conv => whnf
 refine Or.inr ⟨Unit, fun _ => ⟨[(0, .o (.c (.ptr 0 0))), (1, .o (.c (.ptr 6 0))), (2, .o (.c (.vec 7 X.length))), (10, .o (.c (u8 X 18))), (23, .o (.c (.val (.bool true))))], [rdB 1 3 4 5 false, .dead, .dead, .dead, .dead, .dead, ohB X, rowB X]⟩, ?_, fun _ => ?_⟩
 · conv => whnf
   refine ⟨fun g1 => ?_, fun g1 => ?_⟩
   · conv => whnf
     exact ⟨(), [0, 1, 2, 3, 4, 5, 6, 7], ⟨rfl, ⟨rfl, rfl, l1 _, l2 _, l3 _, l4 _, l5 _, rfl, rfl, rfl, rfl, trivial⟩, rfl⟩, rfl, rfl, rfl, rfl, by show some (AV.o (.c (.val (.bool (((bt X 18 : Nat) : Int) == ((1 : Nat) : Int)))))) = some (AV.o (.c (.val (.bool true)))); rw [show (((bt X 18 : Nat) : Int) == ((1 : Nat) : Int)) = true from g1], trivial⟩
   · have g1 : bt X 18 ≠ 1 := beq_f (b := 1) g1
     conv => whnf
     refine ⟨fun g2 => absurd (beq_t (a := bt X 18) (b := 2) g2) (by omega), fun _ => ?_⟩
     conv => whnf
     exact ⟨(), [0, 1, 2, 3, 4, 5, 6, 7], ⟨rfl, ⟨rfl, rfl, l1 _, l2 _, l3 _, l4 _, l5 _, rfl, rfl, rfl, rfl, trivial⟩, rfl⟩, rfl, rfl, rfl, rfl, by show some (AV.o (.c (.val (.bool (((bt X 18 : Nat) : Int) == ((255 : Nat) : Int)))))) = some (AV.o (.c (.val (.bool true)))); rw [show bt X 18 = 255 by omega]; rfl, trivial⟩
 conv => whnf
 refine ⟨fun _ => ?_, fun g => zT g⟩
 conv => whnf
 refine CallsA.lift (H0 := [rdB 1 3 4 5 false, .dead, .dead, .dead, .dead, .dead, ohB X, rowB X]) [0, 1, 2, 3, 4, 5, 6, 7] rfl ⟨rfl, rfl, l1 _, l2 _, l3 _, l4 _, l5 _, rfl, rfl, rfl, rfl, trivial⟩ rfl (parseStreamW he hX hXl) ?_
 rintro _ _ (⟨h1, rfl, rfl⟩ | ⟨h1, rfl, rfl⟩)
 · conv => whnf
   exact Or.inl (.inr (.inl ⟨g, h1, rfl, rfl⟩))
 · conv => whnf
   exact Or.inl (.inr (.inr ⟨fun h => h.elim (fun h => g h.1) (fun h => h1 h.2), rfl, rfl⟩))
end Go.Proofs.YtokkphocaloelaaGreatDoor

end
section
namespace Go.Proofs.YtokkphocaloelaaGreatDoor
open Go Go.Vc
set_option maxRecDepth 100000
set_option maxHeartbeats 8000000

theorem l8 (n : Nat) : 8 < n + 9 := by omega
theorem l12 (n : Nat) : 12 < n + 13 := by omega
structure Opens (L : List Int) (g : PgI) (rest : List Int) (k : Nat) : Prop where
 pg : pageI L = some (g, rest)
 siz : g.sizes = lenI g.segs
 one : OneP g.segs k
 byt : Byt g.hdr
 len : g.hdr.length = 27
 sig : g.hdr.take 4 = [79, 103, 103, 83]
 fla : bt g.hdr 5 = 2
 bX : Byt g.segs.flatten
 lX : g.segs.flatten.length ≤ 65536
 map : 19 ≤ g.segs.flatten.length → g.segs.flatten.take 8 = opusHead → bt g.segs.flatten 18 = 0 ∨ bt g.segs.flatten 18 = 1 ∨ bt g.segs.flatten 18 = 255
def ps0 : Blk := psB 6 7 .none none false 0 false
def rst8 (L : List Int) (s : Sr) : List Blk := [rdB 1 3 4 5 false, srcB 2 L s, datB L, tabB tabL, ps0, .dead, .dead, .dead]
theorem nextPacket1W {w0 : World} {t : TypeId} {v : Nat → Value} (he : Errs w0 t v) {L : List Int} {s : Sr} (hs : s.ok L) (hLb : Byt L) (hL : L.length ≤ 1099511627776) (hrb : Byt (s.rem L))
   (ho : ∀ g rest, pageI (s.rem L) = some (g, rest) → ∃ k, Opens (s.rem L) g rest k) :
   CallsA Tryz.prog w0 30 [.c (.ptr 0 0)] (rst8 L s) fun r H => match pageI (s.rem L) with
     | none => ∃ k : Nat, (k = 0 ∨ k = 1 ∨ k = 5) ∧ r = .t [.c (.val (.slice none 0 0)), .c (.val (.pointer none)), .c (.val (.iface t (v k)))] ∧ H = d8
     | some (g, rest) => ∃ (s' : Sr) (o c : Nat), s'.ok L ∧ s'.rem L = rest ∧ r = .t [.c (.vec 9 g.segs.flatten.length), .c (.ptr 10 0), .c (.val .nilIface)] ∧
         H = [rdB 1 3 4 5 false, srcB 2 L s', datB L, tabB tabL, psB 8 7 (.sli o 0 c) none false (mkLi g.hdr 0) (mkHl g.hdr false), .dead, .dead, .dead, .dead, rowB g.segs.flatten, hpB g.hdr] := by
 have hpd := pageDataW he false hs hLb hL hrb
 obtain ⟨G, hG⟩ : ∃ G, G = pageI (s.rem L) := ⟨_, rfl⟩
 rw [← hG] at hpd ho ⊢
 refine callsA_of_ev c30_ ?_
 conv => whnf
 refine CallsA.liftK (H0 := [rdB 1 3 4 5 false, .dead, .dead, .dead, .dead, .dead]) [0, 1, 2, 3, 4, 5] [rdB 1 3 4 5 false, .dead, .dead, .dead, .dead, .dead, .dead, .dead] ⟨rfl, trivial⟩ rfl ⟨rfl, rfl, l1 _, l2 _, l3 _, l4 _, l5 _, trivial⟩ rfl (getStateW w0 false) ?_
 rintro _ _ ⟨rfl, rfl⟩
 conv => whnf
 refine Or.inl ?_
 conv => whnf
 refine ⟨fun g => zF g, fun _ => ?_⟩
 conv => whnf
 refine ⟨Unit, fun _ => ⟨[(0, .o (.c (.ptr 0 0))), (5, .o (.c (.ptr 4 0)))], rst8 L s⟩, fun _ => 0, ⟨(), [0, 1, 2, 3, 4, 5, 6, 7], ⟨rfl, ⟨rfl, rfl, srcE (by rfl) _, rfl, rfl, rfl, rfl, rfl, rfl, rfl, l5 _, l6 _, l7 _, trivial⟩, rfl⟩, rfl, rfl, trivial⟩, fun _ => ?_⟩
 conv => whnf
 refine CallsA.liftK (H0 := [rdB 1 3 4 5 false, srcB 2 L s, datB L, tabB tabL, .dead, .dead]) [0, 1, 2, 3, 4, 5] [rdB 1 3 4 5 false, srcB 2 L s, datB L, tabB tabL, .dead, .dead, .dead, .dead] ⟨rfl, rfl, rfl, rfl, trivial⟩ rfl ⟨rfl, rfl, srcE (by rfl) _, rfl, rfl, rfl, rfl, rfl, l4 _, l5 _, trivial⟩ rfl hpd ?_
 intro r H hrH
 cases G with
 | none =>
   obtain ⟨k, hk, hk0, rfl, rfl⟩ := hrH
   have hkk : k < 12 ∧ k ≠ 3 ∧ k ≠ 6 := by omega
   conv => whnf
   refine Or.inl ?_
   conv => whnf
   refine ⟨fun _ => ?_, fun g => zT g⟩
   conv => whnf
   refine Or.inl ?_
   conv => whnf
   refine ⟨.iface t (v 0), ?_⟩
   conv => whnf
   refine ⟨he.get 0 (by decide) (by decide) (by decide), ?_⟩
   conv => whnf
   refine ⟨rfl, ?_⟩
   conv => whnf
   refine ⟨_, he.eq0 k hkk.1 hkk.2.1 hkk.2.2, ?_⟩
   conv => whnf
   refine ⟨fun g => ?_, fun g => ?_⟩
   · conv => whnf
     refine ⟨fun g => zF g, fun _ => ?_⟩
     conv => whnf
     exact Or.inr ⟨[0, 1, 2, 3, 4, 5, 6, 7], .t [.c (.val (.slice none 0 0)), .c (.val (.pointer none)), .c (.val (.iface t (v k)))], d8, ⟨rfl, ⟨l0 _, l1 _, l2 _, l3 _, l4 _, l5 _, l6 _, l7 _, trivial⟩, rfl⟩, rfl, k, hk, rfl, rfl⟩
   · conv => whnf
     exact Or.inr ⟨[0, 1, 2, 3, 4, 5, 6, 7], .t [.c (.val (.slice none 0 0)), .c (.val (.pointer none)), .c (.val (.iface t (v k)))], d8, ⟨rfl, ⟨l0 _, l1 _, l2 _, l3 _, l4 _, l5 _, l6 _, l7 _, trivial⟩, rfl⟩, rfl, k, hk, rfl, rfl⟩
 | some x =>
   obtain ⟨g, rest⟩ := x
   obtain ⟨s', hs', hr', rfl, rfl⟩ := hrH
   obtain ⟨k, hop⟩ := ho g rest rfl
   obtain ⟨h, sizes, segs⟩ := g
   have hsz : sizes = lenI segs := hop.siz
   subst hsz
   have hone : OneP segs k := hop.one
   have hl1 : segs.length = k + 1 := hone.len
   have hl2 : (lenI segs).length = k + 1 := by unfold lenI; rw [List.length_map]; exact hl1
   conv => whnf
   refine Or.inr ⟨Unit, fun _ => ⟨[(0, .o (.c (.ptr 0 0))), (5, .o (.c (.ptr 4 0))), (7, .o (.c (.vec 10 (k + 1)))), (8, .o (.c (.vec 9 (k + 1)))), (9, .o (.c (.ptr 8 0)))], [rdB 1 3 4 5 false, srcB 2 L s', datB L, tabB tabL, ps0, .dead, .dead, .dead, hpB h, rowB (lenI segs), outB 11 segs, segB segs]⟩, ?_, fun _ => ?_⟩
   · conv => whnf
     refine ⟨fun g => zF g, fun _ => ?_⟩
     conv => whnf
     refine ⟨(), [0, 1, 2, 3, 4, 5, 6, 7, 8, 9, 10, 11], ⟨rfl, ⟨rfl, rfl, srcEE (by rfl) (by rfl) _, rfl, rfl, rfl, rfl, rfl, rfl, rfl, l5 _, l6 _, l7 _, rfl, rfl, rfl, rfl, rfl, rfl, rfl, rfl, trivial⟩, rfl⟩, rfl, rfl, ?_, ?_, rfl, trivial⟩
     · show some (AV.o (.c (CV.vec 10 segs.length))) = some (AV.o (.c (CV.vec 10 (k + 1))))
       rw [hl1]
     · show some (AV.o (.c (CV.vec 9 (lenI segs).length))) = some (AV.o (.c (CV.vec 9 (k + 1))))
       rw [hl2]
   conv => whnf
   refine Or.inr ⟨Unit, fun _ => ⟨[(0, .o (.c (.ptr 0 0))), (5, .o (.c (.ptr 4 0)))], [rdB 1 3 4 5 false, srcB 2 L s', datB L, tabB tabL, psB 12 7 (.vec 1) none false (mkLi h 0) (mkHl h false), .dead, .dead, .dead, .dead, .dead, .dead, .dead, quB 13 14 segs.flatten.length, rowB segs.flatten, hpB h]⟩, ?_, fun _ => ?_⟩
   · conv => whnf
     refine CallsA.liftK (H0 := [rdB 1 3 4 5 false, .dead, .dead, .dead, psB 6 7 .none none false 0 false, .dead, .dead, .dead, hpB h, rowB (lenI segs), outB 11 segs, segB segs]) [0, 1, 2, 3, 4, 5, 6, 7, 8, 9, 10, 11] [rdB 1 3 4 5 false, .dead, .dead, .dead, psB 6 7 .none none false 0 false, .dead, .dead, .dead, hpB h, rowB (lenI segs), outB 11 segs, segB segs] ⟨rfl, rfl, rfl, rfl, rfl, rfl, trivial⟩ rfl ⟨rfl, rfl, l1 _, l2 _, l3 _, rfl, rfl, l5 _, l6 _, l7 _, rfl, rfl, rfl, rfl, rfl, rfl, rfl, rfl, trivial⟩ rfl (queuePkW w0 false hop.byt (by rw [show bt h 5 = 2 from hop.fla]) hone) ?_
     rintro _ _ ⟨rfl, rfl⟩
     conv => whnf
     refine ⟨fun g => zF g, fun _ => ?_⟩
     conv => whnf
     exact ⟨(), [0, 1, 2, 3, 4, 5, 6, 7, 8, 9, 10, 11, 12, 13, 14], ⟨rfl, ⟨rfl, rfl, srcE (by rfl) _, rfl, rfl, rfl, rfl, rfl, rfl, rfl, l5 _, l6 _, l7 _, l8 _, l9 _, l10 _, l11 _, rfl, rfl, rfl, rfl, rfl, rfl, trivial⟩, rfl⟩, rfl, rfl, trivial⟩
   conv => whnf
   refine ⟨fun _ => ?_, fun g => zT g⟩
   conv => whnf
   refine ⟨⟨by decide, by decide⟩, ?_⟩
   conv => whnf
   refine ⟨segs.flatten.length, rfl, ?_⟩
   conv => whnf
   refine ⟨⟨by decide, by decide, by decide⟩, .inl ⟨fun c _ _ => ?_, fun _ => ?_, fun _ h0 => absurd h0 (by decide)⟩⟩
   · conv => whnf
     exact Or.inr ⟨[0, 1, 2, 3, 4, 5, 6, 7, 12, 13, 14], .t [.c (.vec 9 segs.flatten.length), .c (.ptr 10 0), .c (.val .nilIface)], [rdB 1 3 4 5 false, srcB 2 L s', datB L, tabB tabL, psB 8 7 (.sli 1 0 (c - 1)) none false (mkLi h 0) (mkHl h false), .dead, .dead, .dead, .dead, rowB segs.flatten, hpB h], ⟨rfl, ⟨rfl, rfl, srcE (by rfl) _, rfl, rfl, rfl, rfl, rfl, rfl, rfl, l5 _, l6 _, l7 _, l12 _, rfl, rfl, rfl, rfl, trivial⟩, rfl⟩, rfl, s', 1, c - 1, hs', hr', rfl, rfl⟩
   · conv => whnf
     exact Or.inr ⟨[0, 1, 2, 3, 4, 5, 6, 7, 12, 13, 14], .t [.c (.vec 9 segs.flatten.length), .c (.ptr 10 0), .c (.val .nilIface)], [rdB 1 3 4 5 false, srcB 2 L s', datB L, tabB tabL, psB 8 7 (.sli 0 0 0) none false (mkLi h 0) (mkHl h false), .dead, .dead, .dead, .dead, rowB segs.flatten, hpB h], ⟨rfl, ⟨rfl, rfl, srcE (by rfl) _, rfl, rfl, rfl, rfl, rfl, rfl, rfl, l5 _, l6 _, l7 _, l12 _, rfl, rfl, rfl, rfl, trivial⟩, rfl⟩, rfl, s', 0, 0, hs', hr', rfl, rfl⟩
end Go.Proofs.YtokkphocaloelaaGreatDoor

end
section
namespace Go.Proofs.YtokkphocaloelaaGreatDoor
open Go Go.Vc
set_option maxRecDepth 100000
set_option maxHeartbeats 8000000

def eqL : List Blk → List Blk → Prop
 | [], [] => True
 | a :: r, b :: r' => a = b ∧ eqL r r'
 | _, _ => False
theorem eqL.eq : ∀ {l l' : List Blk}, eqL l l' → l = l'
 | [], [], _ => rfl
 | _ :: _, _ :: _, h => by rw [h.1, eqL.eq h.2]
 | [], _ :: _, h => h.elim
 | _ :: _, [], h => h.elim
theorem CallsA.liftE {P : Program} {w0 : World} {f : FuncId} {args0 args : List A1} {H0 H : List Blk} {R0 R : AV → List Blk → Prop} (σ : List Nat) (hσn : Vc.nodupB σ = true) (hemb : embH σ H H0 σ) (hargs : args0.map (A1.ren σ) = args) (h : CallsA P w0 f args0 H0 R0)
   (hR : ∀ r0 H0', R0 r0 H0' → ∃ r1 H1, r0.ren (widen σ H H0') = r1 ∧ eqL (putAll σ (H0'.map (Blk.ren (widen σ H H0'))) H) H1 ∧ R r1 H1) : CallsA P w0 f args H R :=
 CallsA.lift σ hσn hemb hargs h fun r0 H0' h0 => by
   obtain ⟨r1, H1, h1, h2, h3⟩ := hR r0 H0' h0
   rw [h1, h2.eq]
   exact h3
theorem CallsA.liftKE {P : Program} {w0 : World} {f : FuncId} {args0 args : List A1} {H0 H : List Blk} {R0 R : AV → List Blk → Prop} (σ : List Nat) (Hd : List Blk) (hk : kill Hd H) (hσn : Vc.nodupB σ = true) (hemb : embH σ Hd H0 σ) (hargs : args0.map (A1.ren σ) = args) (h : CallsA P w0 f args0 H0 R0)
   (hR : ∀ r0 H0', R0 r0 H0' → ∃ r1 H1, r0.ren (widen σ Hd H0') = r1 ∧ eqL (Go.Vc.wake Hd H (putAll σ (H0'.map (Blk.ren (widen σ Hd H0'))) Hd)) H1 ∧ R r1 H1) : CallsA P w0 f args H R :=
 CallsA.liftK σ Hd hk hσn hemb hargs h fun r0 H0' h0 => by
   obtain ⟨r1, H1, h1, h2, h3⟩ := hR r0 H0' h0
   rw [h1, h2.eq]
   exact h3
def okX (X : List Int) : Prop := 19 ≤ X.length ∧ X.take 8 = opusHead ∧ okM X
def hd8 (L : List Int) (s : Sr) (q : Qs) (h X : List Int) : List Blk :=
 if bt X 18 = 0 then [rdB 1 3 4 5 false, srcB 2 L s, datB L, tabB tabL, psB 8 7 q none false (mkLi h 0) (mkHl h false), .dead, .dead, .dead, .dead, ohB X]
 else [rdB 1 3 4 11 true, srcB 2 L s, datB L, tabB tabL, psB 8 7 q none false (mkLi h 0) (mkHl h false), .dead, .dead, .dead, .dead, ohB X, rowB (X.drop 21), mpB 10 X]
def headP (L : List Int) (r : AV) (H : List Blk) (t : TypeId) (v : Nat → Value) (pre : List A1) (a b : Nat) (G : Option (PgI × List Int)) (bad : List Blk) (f : Sr → Qs → PgI → List Blk) : Prop :=
 match G with
 | none => ∃ k : Nat, (k < 12 ∧ k ≠ 3 ∧ k ≠ 6) ∧ r = .t (List.replicate b (.c (.val (.pointer none))) ++ [.c (.val (.iface t (v k)))]) ∧ H = bad
 | some (g, rest) =>
   (¬ okX g.segs.flatten ∧ ∃ k : Nat, (k < 12 ∧ k ≠ 3 ∧ k ≠ 6) ∧ r = .t (List.replicate b (.c (.val (.pointer none))) ++ [.c (.val (.iface t (v k)))]) ∧ H = bad) ∨
   (okX g.segs.flatten ∧ ∃ (s' : Sr) (o c : Nat), s'.ok L ∧ s'.rem L = rest ∧ r = .t (pre ++ [.c (.ptr a 0), .c (.val .nilIface)]) ∧ H = f s' (.sli o 0 c) g)
theorem d8emb {H : List Blk} (n : Nat) (h : H.length = 8 + n) : 0 < H.length ∧ 1 < H.length ∧ 2 < H.length ∧ 3 < H.length ∧ 4 < H.length ∧ 5 < H.length ∧ 6 < H.length ∧ 7 < H.length ∧ True := by refine ⟨?_, ?_, ?_, ?_, ?_, ?_, ?_, ?_, trivial⟩ <;> omega
theorem readHeadersW {w0 : World} {t : TypeId} {v : Nat → Value} (he : Errs w0 t v) {L : List Int} {s : Sr} (hs : s.ok L) (hLb : Byt L) (hL : L.length ≤ 1099511627776) (hrb : Byt (s.rem L))
   (ho : ∀ g rest, pageI (s.rem L) = some (g, rest) → ∃ k, Opens (s.rem L) g rest k) :
   CallsA Tryz.prog w0 120 [.c (.ptr 0 0)] (rst8 L s) fun r H => headP L r H t v [] 9 1 (pageI (s.rem L)) d8 fun s' q g => hd8 L s' q g.hdr g.segs.flatten := by
 have hnp := nextPacket1W he hs hLb hL hrb ho
 obtain ⟨G, hG⟩ : ∃ G, G = pageI (s.rem L) := ⟨_, rfl⟩
 rw [← hG] at hnp ho ⊢
 refine callsA_of_ev c120_ ?_
 conv => whnf
 refine CallsA.liftE (H0 := rst8 L s) [0, 1, 2, 3, 4, 5, 6, 7] rfl ⟨rfl, rfl, srcE (by rfl) _, rfl, rfl, rfl, rfl, rfl, rfl, rfl, l5 _, l6 _, l7 _, trivial⟩ rfl hnp ?_
 intro r H hrH
 cases G with
 | none =>
   obtain ⟨k, hk, rfl, rfl⟩ := hrH
   have hkk : k < 12 ∧ k ≠ 3 ∧ k ≠ 6 := by omega
   refine ⟨.t [.c (.val (.slice none 0 0)), .c (.val (.pointer none)), .c (.val (.iface t (v k)))], d8, rfl, ⟨rfl, rfl, rfl, rfl, rfl, rfl, rfl, rfl, trivial⟩, ?_⟩
   conv => whnf
   refine Or.inl ?_
   conv => whnf
   refine ⟨fun _ => ?_, fun g => zT g⟩
   conv => whnf
   exact Or.inr ⟨[0, 1, 2, 3, 4, 5, 6, 7], .t [.c (.val (.pointer none)), .c (.val (.iface t (v k)))], d8, ⟨rfl, ⟨l0 _, l1 _, l2 _, l3 _, l4 _, l5 _, l6 _, l7 _, trivial⟩, rfl⟩, rfl, k, hkk, rfl, rfl⟩
 | some x =>
   obtain ⟨g, rest⟩ := x
   obtain ⟨s', o, c, hs', hr', rfl, rfl⟩ := hrH
   obtain ⟨k, hop⟩ := ho g rest rfl
   obtain ⟨h, sizes, segs⟩ := g
   have hbX : Byt segs.flatten := hop.bX
   have hlX : segs.flatten.length ≤ 65536 := hop.lX
   have hbh : Byt h := hop.byt
   have hlh : h.length = 27 := hop.len
   have hsg : h.take 4 = [79, 103, 103, 83] := hop.sig
   have hfl : bt h 5 = 2 := hop.fla
   refine ⟨.t [.c (.vec 9 segs.flatten.length), .c (.ptr 10 0), .c (.val .nilIface)], [rdB 1 3 4 5 false, srcB 2 L s', datB L, tabB tabL, psB 8 7 (.sli o 0 c) none false (mkLi h 0) (mkHl h false), .dead, .dead, .dead, .dead, rowB segs.flatten, hpB h], rfl, ⟨rfl, srcB_ren (by rfl) _, rfl, rfl, rfl, rfl, rfl, rfl, rfl, rfl, rfl, trivial⟩, ?_⟩
   conv => whnf
   refine Or.inl ?_
   conv => whnf
   refine ⟨fun g => zF g, fun _ => ?_⟩
   conv => whnf
   refine CallsA.liftE (H0 := [hpB h, rowB segs.flatten]) [10, 9] rfl ⟨rfl, rfl, rfl, rfl, trivial⟩ rfl (parseIDW he hbh hlh hbX hsg hfl) ?_
   rintro _ _ (⟨h1, rfl, rfl⟩ | ⟨h1, k1, hk1, rfl, rfl⟩)
   case inr =>
     have hkk := hk1.lt
     refine ⟨.t [.c (.val (.pointer none)), .c (.val (.iface t (v k1)))], [rdB 1 3 4 5 false, srcB 2 L s', datB L, tabB tabL, psB 8 7 (.sli o 0 c) none false (mkLi h 0) (mkHl h false), .dead, .dead, .dead, .dead, .dead, .dead], rfl, ⟨rfl, rfl, rfl, rfl, rfl, rfl, rfl, rfl, rfl, rfl, rfl, trivial⟩, ?_⟩
     conv => whnf
     refine Or.inl ?_
     conv => whnf
     refine ⟨fun _ => ?_, fun g => zT g⟩
     conv => whnf
     exact Or.inr ⟨[0, 1, 2, 3, 4, 5, 6, 7], .t [.c (.val (.pointer none)), .c (.val (.iface t (v k1)))], d8, ⟨rfl, ⟨l0 _, l1 _, l2 _, l3 _, l4 _, l5 _, l6 _, l7 _, trivial⟩, rfl⟩, rfl, .inl ⟨fun hx => h1 ⟨hx.1, hx.2.1⟩, k1, ⟨hkk.1, hkk.2.1, hkk.2.2.1⟩, rfl, rfl⟩⟩
   have hmX : bt segs.flatten 18 = 0 ∨ bt segs.flatten 18 = 1 ∨ bt segs.flatten 18 = 255 := hop.map h1.1 h1.2
   refine ⟨.t [.c (.ptr 11 0), .c (.val .nilIface)], [rdB 1 3 4 5 false, srcB 2 L s', datB L, tabB tabL, psB 8 7 (.sli o 0 c) none false (mkLi h 0) (mkHl h false), .dead, .dead, .dead, .dead, rowB segs.flatten, hpB h, ohB segs.flatten], rfl, ⟨rfl, rfl, rfl, rfl, rfl, rfl, rfl, rfl, rfl, rfl, rfl, rfl, trivial⟩, ?_⟩
   conv => whnf
   refine Or.inl ?_
   conv => whnf
   refine ⟨fun g => zF g, fun _ => ?_⟩
   conv => whnf
   refine Or.inl ?_
   conv => whnf
   refine CallsA.liftKE (H0 := [rdB 1 3 4 5 false, .dead, .dead, .dead, .dead, .dead, ohB segs.flatten, rowB segs.flatten]) [0, 1, 2, 3, 4, 5, 11, 9] [rdB 1 3 4 5 false, .dead, .dead, .dead, .dead, .dead, .dead, .dead, .dead, rowB segs.flatten, .dead, ohB segs.flatten] ⟨rfl, rfl, rfl, trivial⟩ rfl ⟨rfl, rfl, l1 _, l2 _, l3 _, l4 _, l5 _, rfl, rfl, rfl, rfl, trivial⟩ rfl (parseMapW he hbX hlX hmX) ?_
   rintro _ _ (⟨h2, h3, rfl, rfl⟩ | ⟨h2, h3, rfl, rfl⟩ | ⟨h2, rfl, rfl⟩)
   · refine ⟨.o (.c (.val .nilIface)), [rdB 1 3 4 5 false, srcB 2 L s', datB L, tabB tabL, psB 8 7 (.sli o 0 c) none false (mkLi h 0) (mkHl h false), .dead, .dead, .dead, .dead, rowB segs.flatten, hpB h, ohB segs.flatten], rfl, ⟨rfl, rfl, rfl, rfl, rfl, rfl, rfl, rfl, rfl, rfl, rfl, rfl, trivial⟩, ?_⟩
     conv => whnf
     refine ⟨fun g => zF g, fun _ => ?_⟩
     conv => whnf
     exact Or.inr ⟨[0, 1, 2, 3, 4, 5, 6, 7, 8, 11], .t [.c (.ptr 9 0), .c (.val .nilIface)], [rdB 1 3 4 5 false, srcB 2 L s', datB L, tabB tabL, psB 8 7 (.sli o 0 c) none false (mkLi h 0) (mkHl h false), .dead, .dead, .dead, .dead, ohB segs.flatten], ⟨rfl, ⟨rfl, rfl, srcE (by rfl) _, rfl, rfl, rfl, rfl, rfl, rfl, rfl, l5 _, l6 _, l7 _, l8 _, rfl, rfl, trivial⟩, rfl⟩, rfl, .inr ⟨⟨h1.1, h1.2, .inl ⟨h2, h3⟩⟩, s', o, c, hs', hr', rfl, (if_pos h2).symm⟩⟩
   · refine ⟨.o (.c (.val .nilIface)), [rdB 1 3 4 13 true, srcB 2 L s', datB L, tabB tabL, psB 8 7 (.sli o 0 c) none false (mkLi h 0) (mkHl h false), .dead, .dead, .dead, .dead, rowB segs.flatten, hpB h, ohB segs.flatten, rowB (segs.flatten.drop 21), mpB 12 segs.flatten], rfl, ⟨rfl, rfl, rfl, rfl, rfl, rfl, rfl, rfl, rfl, rfl, rfl, rfl, rfl, rfl, trivial⟩, ?_⟩
     conv => whnf
     refine ⟨fun g => zF g, fun _ => ?_⟩
     conv => whnf
     exact Or.inr ⟨[0, 1, 2, 3, 4, 5, 6, 7, 8, 11, 12, 13], .t [.c (.ptr 9 0), .c (.val .nilIface)], [rdB 1 3 4 11 true, srcB 2 L s', datB L, tabB tabL, psB 8 7 (.sli o 0 c) none false (mkLi h 0) (mkHl h false), .dead, .dead, .dead, .dead, ohB segs.flatten, rowB (segs.flatten.drop 21), mpB 10 segs.flatten], ⟨rfl, ⟨rfl, rfl, srcE (by rfl) _, rfl, rfl, rfl, rfl, rfl, rfl, rfl, l5 _, l6 _, l7 _, l8 _, rfl, rfl, rfl, rfl, rfl, rfl, trivial⟩, rfl⟩, rfl, .inr ⟨⟨h1.1, h1.2, .inr ⟨h2, h3⟩⟩, s', o, c, hs', hr', rfl, (if_neg h2).symm⟩⟩
   · refine ⟨.o (.c (.val (.iface t (v 10)))), [.dead, srcB 2 L s', datB L, tabB tabL, psB 8 7 (.sli o 0 c) none false (mkLi h 0) (mkHl h false), .dead, .dead, .dead, .dead, .dead, hpB h, .dead], rfl, ⟨rfl, rfl, rfl, rfl, rfl, rfl, rfl, rfl, rfl, rfl, rfl, rfl, trivial⟩, ?_⟩
     conv => whnf
     refine ⟨fun _ => ?_, fun g => zT g⟩
     conv => whnf
     exact Or.inr ⟨[0, 1, 2, 3, 4, 5, 6, 7], .t [.c (.val (.pointer none)), .c (.val (.iface t (v 10)))], d8, ⟨rfl, d8emb 4 rfl, rfl⟩, rfl, .inl ⟨fun hx => h2 hx.2.2, 10, ⟨by decide, by decide, by decide⟩, rfl, rfl⟩⟩
end Go.Proofs.YtokkphocaloelaaGreatDoor

end
section
namespace Go.Proofs.YtokkphocaloelaaGreatDoor
open Go Go.Vc
set_option maxRecDepth 100000
set_option maxHeartbeats 8000000

def nwH (L : List Int) (s : Sr) (q : Qs) (h X : List Int) : List Blk :=
 if bt X 18 = 0 then [datB L, srcB 0 L s, rdB 1 3 4 5 false, tabB tabL, psB 6 7 q none false (mkLi h 0) (mkHl h false), .dead, .dead, .dead, ohB X, .dead]
 else [datB L, srcB 0 L s, rdB 1 3 4 5 true, tabB tabL, psB 6 7 q none false (mkLi h 0) (mkHl h false), mpB 9 X, .dead, .dead, ohB X, rowB (X.drop 21)]
def opH (L : List Int) (s : Sr) (q : Qs) (h X : List Int) : List Blk :=
 if bt X 18 = 0 then [rdB 1 3 4 5 false, srcB 2 L s, datB L, tabB tabL, psB 6 7 q none false (mkLi h 0) (mkHl h false), .dead, .dead, .dead, ohB X, .dead]
 else [rdB 1 3 4 5 true, srcB 2 L s, datB L, tabB tabL, psB 6 7 q none false (mkLi h 0) (mkHl h false), mpB 9 X, .dead, .dead, ohB X, rowB (X.drop 21)]
theorem newWithW {w0 : World} {t : TypeId} {v : Nat → Value} (he : Errs w0 t v) {L : List Int} (hLb : Byt L) (hL : L.length ≤ 1099511627776)
   (ho : ∀ g rest, pageI L = some (g, rest) → ∃ k, Opens L g rest k) :
   CallsA Tryz.prog w0 90 [.c (.ifc 118 1 0), .c (.val (.bool true))] [datB L, srcB 0 L none] fun r H => headP L r H t v [.c (.ptr 2 0)] 8 2 (pageI L) [.dead, .dead] fun s' q g => nwH L s' q g.hdr g.segs.flatten := by
 have hrh := readHeadersW he (s := none) trivial hLb hL hLb ho
 rw [show Sr.rem L none = L from rfl] at hrh
 obtain ⟨G, hG⟩ : ∃ G, G = pageI L := ⟨_, rfl⟩
 rw [← hG] at hrh ho ⊢
 refine callsA_of_ev c90_ ?_
 conv => whnf
 refine Or.inr ⟨Unit, fun _ => ⟨[(0, .o (.c (.ifc 118 1 0))), (1, .o (.c (.val (.bool true))))], [datB L, srcB 0 L none, .dead, .dead, .dead]⟩, ?_, fun _ => ?_⟩
 · conv => whnf
   refine ⟨fun g => zF g, fun _ => ?_⟩
   conv => whnf
   exact ⟨(), [0, 1, 0, 0, 0], ⟨rfl, ⟨rfl, rfl, rfl, rfl, l0 _, l0 _, l0 _, trivial⟩, rfl⟩, rfl, rfl, trivial⟩
 conv => whnf
 refine CallsA.liftE (H0 := []) [] rfl trivial rfl (genTableW w0) ?_
 rintro _ _ ⟨rfl, rfl⟩
 refine ⟨.o (.c (.ptr 5 0)), [datB L, srcB 0 L none, .dead, .dead, .dead, tabB tabL], rfl, ⟨rfl, rfl, rfl, rfl, rfl, rfl, trivial⟩, ?_⟩
 conv => whnf
 refine CallsA.liftE (H0 := rst8 L none) [7, 1, 0, 5, 6, 2, 3, 4] rfl ⟨rfl, rfl, rfl, rfl, rfl, rfl, rfl, rfl, rfl, rfl, l2 _, l3 _, l4 _, trivial⟩ rfl hrh ?_
 intro r H hrH
 cases G with
 | none =>
   obtain ⟨k, hk, rfl, rfl⟩ := hrH
   refine ⟨.t [.c (.val (.pointer none)), .c (.val (.iface t (v k)))], d8, rfl, ⟨rfl, rfl, rfl, rfl, rfl, rfl, rfl, rfl, trivial⟩, ?_⟩
   conv => whnf
   refine Or.inl ?_
   conv => whnf
   refine ⟨fun _ => ?_, fun g => zT g⟩
   conv => whnf
   exact Or.inr ⟨[0, 1], .t [.c (.val (.pointer none)), .c (.val (.pointer none)), .c (.val (.iface t (v k)))], [.dead, .dead], ⟨rfl, ⟨l0 _, l1 _, trivial⟩, rfl⟩, rfl, k, hk, rfl, rfl⟩
 | some x =>
   obtain ⟨g, rest⟩ := x
   rcases hrH with ⟨h1, k, hk, rfl, rfl⟩ | ⟨h1, s', o, c, hs', hr', rfl, rfl⟩
   · refine ⟨.t [.c (.val (.pointer none)), .c (.val (.iface t (v k)))], d8, rfl, ⟨rfl, rfl, rfl, rfl, rfl, rfl, rfl, rfl, trivial⟩, ?_⟩
     conv => whnf
     refine Or.inl ?_
     conv => whnf
     refine ⟨fun _ => ?_, fun g => zT g⟩
     conv => whnf
     exact Or.inr ⟨[0, 1], .t [.c (.val (.pointer none)), .c (.val (.pointer none)), .c (.val (.iface t (v k)))], [.dead, .dead], ⟨rfl, ⟨l0 _, l1 _, trivial⟩, rfl⟩, rfl, .inl ⟨h1, k, hk, rfl, rfl⟩⟩
   · unfold hd8 nwH headP
     by_cases h18 : bt g.segs.flatten 18 = 0
     · simp only [if_pos h18]
       refine ⟨.t [.c (.ptr 9 0), .c (.val .nilIface)], [datB L, srcB 0 L s', .dead, .dead, .dead, tabB tabL, psB 8 4 (.sli o 0 c) none false (mkLi g.hdr 0) (mkHl g.hdr false), rdB 1 5 6 2 false, .dead, ohB g.segs.flatten], rfl, ⟨rfl, srcB_ren (by rfl) _, rfl, rfl, rfl, rfl, rfl, rfl, rfl, rfl, trivial⟩, ?_⟩
       conv => whnf
       refine Or.inl ?_
       conv => whnf
       refine ⟨fun g => zF g, fun _ => ?_⟩
       conv => whnf
       exact Or.inr ⟨[0, 1, 7, 5, 6, 2, 8, 4, 9, 3], .t [.c (.ptr 2 0), .c (.ptr 8 0), .c (.val .nilIface)], [datB L, srcB 0 L s', rdB 1 3 4 5 false, tabB tabL, psB 6 7 (.sli o 0 c) none false (mkLi g.hdr 0) (mkHl g.hdr false), .dead, .dead, .dead, ohB g.segs.flatten, .dead], ⟨rfl, ⟨rfl, rfl, srcE (by rfl) _, rfl, rfl, rfl, rfl, rfl, rfl, rfl, l2 _, l8 _, l4 _, rfl, rfl, l3 _, trivial⟩, rfl⟩, rfl, .inr ⟨h1, s', o, c, hs', hr', rfl, rfl⟩⟩
     · simp only [if_neg h18]
       refine ⟨.t [.c (.ptr 9 0), .c (.val .nilIface)], [datB L, srcB 0 L s', .dead, .dead, .dead, tabB tabL, psB 8 4 (.sli o 0 c) none false (mkLi g.hdr 0) (mkHl g.hdr false), rdB 1 5 6 11 true, .dead, ohB g.segs.flatten, rowB (g.segs.flatten.drop 21), mpB 10 g.segs.flatten], rfl, ⟨rfl, srcB_ren (by rfl) _, rfl, rfl, rfl, rfl, rfl, rfl, rfl, rfl, rfl, rfl, trivial⟩, ?_⟩
       conv => whnf
       refine Or.inl ?_
       conv => whnf
       refine ⟨fun g => zF g, fun _ => ?_⟩
       conv => whnf
       exact Or.inr ⟨[0, 1, 7, 5, 6, 11, 8, 4, 9, 10], .t [.c (.ptr 2 0), .c (.ptr 8 0), .c (.val .nilIface)], [datB L, srcB 0 L s', rdB 1 3 4 5 true, tabB tabL, psB 6 7 (.sli o 0 c) none false (mkLi g.hdr 0) (mkHl g.hdr false), mpB 9 g.segs.flatten, .dead, .dead, ohB g.segs.flatten, rowB (g.segs.flatten.drop 21)], ⟨rfl, ⟨rfl, rfl, srcE (by rfl) _, rfl, rfl, rfl, rfl, rfl, rfl, rfl, rfl, rfl, l8 _, l4 _, rfl, rfl, rfl, rfl, trivial⟩, rfl⟩, rfl, .inr ⟨h1, s', o, c, hs', hr', rfl, rfl⟩⟩
theorem newWith0W {w0 : World} {t : TypeId} {v : Nat → Value} (he : Errs w0 t v) {L : List Int} (hLb : Byt L) (hL : L.length ≤ 1099511627776)
   (ho : ∀ g rest, pageI L = some (g, rest) → ∃ k, Opens L g rest k) :
   CallsA Tryz.prog w0 52 [.c (.ifc 118 1 0)] [datB L, srcB 0 L none] fun r H => headP L r H t v [.c (.ptr 2 0)] 8 2 (pageI L) [.dead, .dead] fun s' q g => nwH L s' q g.hdr g.segs.flatten := by
 have hrh := newWithW he hLb hL ho
 obtain ⟨G, hG⟩ : ∃ G, G = pageI L := ⟨_, rfl⟩
 rw [← hG] at hrh ⊢
 refine callsA_of_ev c52_ ?_
 conv => whnf
 refine CallsA.liftE (H0 := [datB L, srcB 0 L none]) [0, 1] rfl ⟨rfl, rfl, rfl, rfl, trivial⟩ rfl hrh ?_
 intro r H hrH
 cases G with
 | none =>
   obtain ⟨k, hk, rfl, rfl⟩ := hrH
   refine ⟨.t [.c (.val (.pointer none)), .c (.val (.pointer none)), .c (.val (.iface t (v k)))], [.dead, .dead], rfl, ⟨rfl, rfl, trivial⟩, ?_⟩
   conv => whnf
   exact Or.inr ⟨[0, 1], .t [.c (.val (.pointer none)), .c (.val (.pointer none)), .c (.val (.iface t (v k)))], [.dead, .dead], ⟨rfl, ⟨l0 _, l1 _, trivial⟩, rfl⟩, rfl, k, hk, rfl, rfl⟩
 | some x =>
   obtain ⟨g, rest⟩ := x
   rcases hrH with ⟨h1, k, hk, rfl, rfl⟩ | ⟨h1, s', o, c, hs', hr', rfl, rfl⟩
   · refine ⟨.t [.c (.val (.pointer none)), .c (.val (.pointer none)), .c (.val (.iface t (v k)))], [.dead, .dead], rfl, ⟨rfl, rfl, trivial⟩, ?_⟩
     conv => whnf
     exact Or.inr ⟨[0, 1], .t [.c (.val (.pointer none)), .c (.val (.pointer none)), .c (.val (.iface t (v k)))], [.dead, .dead], ⟨rfl, ⟨l0 _, l1 _, trivial⟩, rfl⟩, rfl, .inl ⟨h1, k, hk, rfl, rfl⟩⟩
   · unfold nwH headP
     by_cases h18 : bt g.segs.flatten 18 = 0
     · simp only [if_pos h18]
       refine ⟨.t [.c (.ptr 2 0), .c (.ptr 8 0), .c (.val .nilIface)], [datB L, srcB 0 L s', rdB 1 3 4 5 false, tabB tabL, psB 6 7 (.sli o 0 c) none false (mkLi g.hdr 0) (mkHl g.hdr false), .dead, .dead, .dead, ohB g.segs.flatten, .dead], rfl, ⟨rfl, srcB_ren (by rfl) _, rfl, rfl, rfl, rfl, rfl, rfl, rfl, rfl, trivial⟩, ?_⟩
       conv => whnf
       exact Or.inl (.inr ⟨h1, s', o, c, hs', hr', rfl, rfl⟩)
     · simp only [if_neg h18]
       refine ⟨.t [.c (.ptr 2 0), .c (.ptr 8 0), .c (.val .nilIface)], [datB L, srcB 0 L s', rdB 1 3 4 5 true, tabB tabL, psB 6 7 (.sli o 0 c) none false (mkLi g.hdr 0) (mkHl g.hdr false), mpB 9 g.segs.flatten, .dead, .dead, ohB g.segs.flatten, rowB (g.segs.flatten.drop 21)], rfl, ⟨rfl, srcB_ren (by rfl) _, rfl, rfl, rfl, rfl, rfl, rfl, rfl, rfl, trivial⟩, ?_⟩
       conv => whnf
       exact Or.inl (.inr ⟨h1, s', o, c, hs', hr', rfl, rfl⟩)
end Go.Proofs.YtokkphocaloelaaGreatDoor

end
section
namespace Go.Proofs.YtokkphocaloelaaGreatDoor
open Go Go.Vc
set_option maxRecDepth 100000
set_option maxHeartbeats 8000000

theorem iOpenW {w0 : World} {t : TypeId} {v : Nat → Value} (he : Errs w0 t v) {b : ByteArray} (hs : b.size ≤ 1099511627776)
   (ho : ∀ g rest, pageI (bytesOf b) = some (g, rest) → ∃ k, Opens (bytesOf b) g rest k) :
   CallsA Tryz.prog w0 29 [.c (.val (.string b))] [] fun r H => headP (bytesOf b) r H t v [.c (.ptr 0 0)] 8 2 (pageI (bytesOf b)) [] fun s' q g => opH (bytesOf b) s' q g.hdr g.segs.flatten := by
 have hLb : Byt (bytesOf b) := byt_bytes b
 have hL : (bytesOf b).length ≤ 1099511627776 := by rw [bytesOf_len]; exact hs
 have hrh := newWith0W he hLb hL ho
 obtain ⟨G, hG⟩ : ∃ G, G = pageI (bytesOf b) := ⟨_, rfl⟩
 rw [← hG] at hrh ho ⊢
 refine callsA_of_ev c29_ ?_
 conv => whnf
 refine ⟨by omega, ?_⟩
 conv => whnf
 refine CallsA.liftE (H0 := [datB (bytesOf b), srcB 0 (bytesOf b) none]) [0, 1] rfl ⟨rfl, rfl, rfl, rfl, trivial⟩ rfl hrh ?_
 intro r H hrH
 cases G with
 | none =>
   obtain ⟨k, hk, rfl, rfl⟩ := hrH
   refine ⟨.t [.c (.val (.pointer none)), .c (.val (.pointer none)), .c (.val (.iface t (v k)))], [.dead, .dead], rfl, ⟨rfl, rfl, trivial⟩, ?_⟩
   conv => whnf
   refine Or.inl ?_
   conv => whnf
   refine ⟨fun _ => ?_, fun g => zT g⟩
   conv => whnf
   exact Or.inr ⟨[], .t [.c (.val (.pointer none)), .c (.val (.pointer none)), .c (.val (.iface t (v k)))], [], ⟨rfl, trivial, rfl⟩, rfl, k, hk, rfl, rfl⟩
 | some x =>
   obtain ⟨g, rest⟩ := x
   rcases hrH with ⟨h1, k, hk, rfl, rfl⟩ | ⟨h1, s', o, c, hs', hr', rfl, rfl⟩
   · refine ⟨.t [.c (.val (.pointer none)), .c (.val (.pointer none)), .c (.val (.iface t (v k)))], [.dead, .dead], rfl, ⟨rfl, rfl, trivial⟩, ?_⟩
     conv => whnf
     refine Or.inl ?_
     conv => whnf
     refine ⟨fun _ => ?_, fun g => zT g⟩
     conv => whnf
     exact Or.inr ⟨[], .t [.c (.val (.pointer none)), .c (.val (.pointer none)), .c (.val (.iface t (v k)))], [], ⟨rfl, trivial, rfl⟩, rfl, .inl ⟨h1, k, hk, rfl, rfl⟩⟩
   · unfold nwH opH headP
     by_cases h18 : bt g.segs.flatten 18 = 0
     · simp only [if_pos h18]
       refine ⟨.t [.c (.ptr 2 0), .c (.ptr 8 0), .c (.val .nilIface)], [datB (bytesOf b), srcB 0 (bytesOf b) s', rdB 1 3 4 5 false, tabB tabL, psB 6 7 (.sli o 0 c) none false (mkLi g.hdr 0) (mkHl g.hdr false), .dead, .dead, .dead, ohB g.segs.flatten, .dead], rfl, ⟨rfl, srcB_ren (by rfl) _, rfl, rfl, rfl, rfl, rfl, rfl, rfl, rfl, trivial⟩, ?_⟩
       conv => whnf
       refine Or.inl ?_
       conv => whnf
       refine ⟨fun g => zF g, fun _ => ?_⟩
       conv => whnf
       exact Or.inr ⟨[2, 1, 0, 3, 4, 5, 6, 7, 8, 9], .t [.c (.ptr 0 0), .c (.ptr 8 0), .c (.val .nilIface)], [rdB 1 3 4 5 false, srcB 2 (bytesOf b) s', datB (bytesOf b), tabB tabL, psB 6 7 (.sli o 0 c) none false (mkLi g.hdr 0) (mkHl g.hdr false), .dead, .dead, .dead, ohB g.segs.flatten, .dead], ⟨rfl, ⟨rfl, rfl, srcE (by rfl) _, rfl, rfl, rfl, rfl, rfl, rfl, rfl, l5 _, l6 _, l7 _, rfl, rfl, l9 _, trivial⟩, rfl⟩, rfl, .inr ⟨h1, s', o, c, hs', hr', rfl, rfl⟩⟩
     · simp only [if_neg h18]
       refine ⟨.t [.c (.ptr 2 0), .c (.ptr 8 0), .c (.val .nilIface)], [datB (bytesOf b), srcB 0 (bytesOf b) s', rdB 1 3 4 5 true, tabB tabL, psB 6 7 (.sli o 0 c) none false (mkLi g.hdr 0) (mkHl g.hdr false), mpB 9 g.segs.flatten, .dead, .dead, ohB g.segs.flatten, rowB (g.segs.flatten.drop 21)], rfl, ⟨rfl, srcB_ren (by rfl) _, rfl, rfl, rfl, rfl, rfl, rfl, rfl, rfl, trivial⟩, ?_⟩
       conv => whnf
       refine Or.inl ?_
       conv => whnf
       refine ⟨fun g => zF g, fun _ => ?_⟩
       conv => whnf
       exact Or.inr ⟨[2, 1, 0, 3, 4, 5, 6, 7, 8, 9], .t [.c (.ptr 0 0), .c (.ptr 8 0), .c (.val .nilIface)], [rdB 1 3 4 5 true, srcB 2 (bytesOf b) s', datB (bytesOf b), tabB tabL, psB 6 7 (.sli o 0 c) none false (mkLi g.hdr 0) (mkHl g.hdr false), mpB 9 g.segs.flatten, .dead, .dead, ohB g.segs.flatten, rowB (g.segs.flatten.drop 21)], ⟨rfl, ⟨rfl, rfl, srcE (by rfl) _, rfl, rfl, rfl, rfl, rfl, rfl, rfl, rfl, rfl, l6 _, l7 _, rfl, rfl, rfl, rfl, trivial⟩, rfl⟩, rfl, .inr ⟨h1, s', o, c, hs', hr', rfl, rfl⟩⟩
end Go.Proofs.YtokkphocaloelaaGreatDoor

end
section
namespace Go.Proofs.YtokkphocaloelaaGreatDoor
open Go Go.Vc
set_option maxRecDepth 100000
set_option maxHeartbeats 8000000

def pgEl (g : PgI) : List ByteArray × Nat := (strsL g.segs, le ((g.hdr.drop 6).take 8))
inductive RdI (L : List Int) : List (List ByteArray × Nat) → List Int → Prop
 | nil : RdI L [] L
 | snoc {yy r g r'} : RdI L yy r → pageI r = some (g, r') → RdI L (yy ++ [pgEl g]) r'
end Go.Proofs.YtokkphocaloelaaGreatDoor

end
section
namespace Go.Proofs.YtokkphocaloelaaGreatDoor
open Go Go.Vc
set_option maxRecDepth 100000
theorem c32_ : compF Tryz.prog 32 = some (.mk (sr [gg 4 (.mov (.k (.string (ByteArray.mk #[]))))] (sr [gm 5 0, gm 6 1, gg 7 (.call 57 [(.t 5), (.t 6)]), gm 4 7] .ret)) 2 [(.t 4)]) := by kernel_rfl
theorem c57_ : compF Tryz.prog 57 = some (.mk (sr [gg 4 (.mov (.k (.string (ByteArray.mk #[]))))] (.cut (sr [gm 10 1, gg 11 (.bin .eql (.t 10) (xk .i64 10))] (.cond (.t 11) (.cut (sr [gm 12 0, gg 13 (.bin .leq (xk .i64 0) (.t 12)), gm 14 13, gq 15 14 true (.mov (.t 0)), gq 16 14 true (.bin .lss (.t 15) (xk .i64 100)), gg 17 (.pick (.t 14) (.t 16) (.k (.bool false)))] (.cond (.t 17) (sr [gm 18 0, gg 19 (.call 98 [(.t 18)]), gm 4 19] .ret) .skip)) (sr [gg 5 (.ala 180 [(.int .u8 ((0:Nat):Int)), (.int .u8 ((0:Nat):Int)), (.int .u8 ((0:Nat):Int)), (.int .u8 ((0:Nat):Int)), (.int .u8 ((0:Nat):Int)), (.int .u8 ((0:Nat):Int)), (.int .u8 ((0:Nat):Int)), (.int .u8 ((0:Nat):Int)), (.int .u8 ((0:Nat):Int)), (.int .u8 ((0:Nat):Int)), (.int .u8 ((0:Nat):Int)), (.int .u8 ((0:Nat):Int)), (.int .u8 ((0:Nat):Int)), (.int .u8 ((0:Nat):Int)), (.int .u8 ((0:Nat):Int)), (.int .u8 ((0:Nat):Int)), (.int .u8 ((0:Nat):Int)), (.int .u8 ((0:Nat):Int)), (.int .u8 ((0:Nat):Int)), (.int .u8 ((0:Nat):Int)), (.int .u8 ((0:Nat):Int)), (.int .u8 ((0:Nat):Int)), (.int .u8 ((0:Nat):Int)), (.int .u8 ((0:Nat):Int))])] (sr [gm 20 0, gg 21 (.cvi .u64 (.t 20)), gm 6 21] (.cut (sr [gm 22 0, gg 23 (.bin .lss (.t 22) (xk .i64 0))] (.cond (.t 23) (.reg [gm 24 6, gg 25 (.un .neg (.t 24)), gm 6 25]) .skip)) (sr [gm 26 6, gg 27 (.call 99 [(.t 26)]), gm 7 27] (sr [gm 28 7, gg 29 (.bin .add (xk .i64 1) (.t 28)), gg 30 (.sla (.t 5) (some (xk .i64 1)) (some (.t 29)) 1 24), gm 31 6, gg 32 (.call 100 [(.t 30), (.t 31)])] (.cut (sr [gm 33 0, gg 34 (.bin .lss (.t 33) (xk .i64 0))] (.cond (.t 34) (sr [gg 35 (.iaa (.t 5) (xk .i64 0) 1 24), (G.mk none none (.st (.t 35) (xk .u8 45) 1))] (sr [gm 36 7, gg 37 (.bin .add (xk .i64 1) (.t 36)), gg 38 (.sll (.t 5) (some (.t 37)) 1 24), gg 39 (.b2s (.t 38)), gm 4 39] .ret)) .skip)) (sr [gm 40 7, gg 41 (.bin .add (xk .i64 1) (.t 40)), gg 42 (.sla (.t 5) (some (xk .i64 1)) (some (.t 41)) 1 24), gg 43 (.b2s (.t 42)), gm 4 43] .ret)))))))) .skip)) (sr [gm 45 0, gg 46 (.cvi .u64 (.t 45)), gm 47 1, gm 48 0, gg 49 (.bin .lss (.t 48) (xk .i64 0)), gg 50 (.call 101 [(.k (.slice none 0 0)), (.t 46), (.t 47), (.t 49), (.k (.bool false))]), gm 44 50, gg 51 (.ext (.t 44) 0), gg 52 (.ext (.t 44) 1), gm 8 51, gm 9 52] (sr [gm 53 9, gm 4 53] .ret)))) 2 [(.t 4)]) := by kernel_rfl
theorem c98_ : compF Tryz.prog 98 = some (.mk (sr [gg 2 (.mov (.k (.string (ByteArray.mk #[]))))] (.cut (sr [gm 3 0, gg 4 (.bin .lss (.t 3) (xk .i64 10))] (.cond (.t 4) (sr [gm 5 0, gm 6 0, gg 7 (.bin .add (.t 6) (xk .i64 1)), gg 8 (.sls (.k (.string (ByteArray.mk #[48, 49, 50, 51, 52, 53, 54, 55, 56, 57, 97, 98, 99, 100, 101, 102, 103, 104, 105, 106, 107, 108, 109, 110, 111, 112, 113, 114, 115, 116, 117, 118, 119, 120, 121, 122]))) (some (.t 5)) (some (.t 7))), gm 2 8] .ret) .skip)) (sr [gm 9 0, gg 10 (.bin .mul (.t 9) (xk .i64 2)), gm 11 0, gg 12 (.bin .mul (.t 11) (xk .i64 2)), gg 13 (.bin .add (.t 12) (xk .i64 2)), gg 14 (.sls (.k (.string (ByteArray.mk #[48, 48, 48, 49, 48, 50, 48, 51, 48, 52, 48, 53, 48, 54, 48, 55, 48, 56, 48, 57, 49, 48, 49, 49, 49, 50, 49, 51, 49, 52, 49, 53, 49, 54, 49, 55, 49, 56, 49, 57, 50, 48, 50, 49, 50, 50, 50, 51, 50, 52, 50, 53, 50, 54, 50, 55, 50, 56, 50, 57, 51, 48, 51, 49, 51, 50, 51, 51, 51, 52, 51, 53, 51, 54, 51, 55, 51, 56, 51, 57, 52, 48, 52, 49, 52, 50, 52, 51, 52, 52, 52, 53, 52, 54, 52, 55, 52, 56, 52, 57, 53, 48, 53, 49, 53, 50, 53, 51, 53, 52, 53, 53, 53, 54, 53, 55, 53, 56, 53, 57, 54, 48, 54, 49, 54, 50, 54, 51, 54, 52, 54, 53, 54, 54, 54, 55, 54, 56, 54, 57, 55, 48, 55, 49, 55, 50, 55, 51, 55, 52, 55, 53, 55, 54, 55, 55, 55, 56, 55, 57, 56, 48, 56, 49, 56, 50, 56, 51, 56, 52, 56, 53, 56, 54, 56, 55, 56, 56, 56, 57, 57, 48, 57, 49, 57, 50, 57, 51, 57, 52, 57, 53, 57, 54, 57, 55, 57, 56, 57, 57]))) (some (.t 10)) (some (.t 13))), gm 2 14] .ret))) 1 [(.t 2)]) := by kernel_rfl
theorem c99_ : compF Tryz.prog 99 = some (.mk (sr [gg 2 (.mov (xk .i64 0))] (sr [gm 4 0, gg 5 (.call 124 [(.t 4)]), gg 6 (.call 123 [(.t 5)]), gm 3 6] (sr [gm 7 3, gm 8 0, gm 9 3, gg 10 (.iaa (.k (.pointer (some (Addr.mk 6 0 none)))) (.t 9) 1 20), gg 11 (.ld (.t 10) none), gg 12 (.bin .geq (.t 8) (.t 11)), gg 13 (.call 125 [(.t 12)]), gg 14 (.bin .add (.t 7) (.t 13)), gm 2 14] .ret))) 1 [(.t 2)]) := by kernel_rfl
theorem c100_ : compF Tryz.prog 100 = some (.mk (sr [gm 17 0, gg 18 (.len false (.t 17)), gm 4 18] (.cut (.block 0 (.loop (.seq (sr [gm 19 4, gg 20 (.bin .geq (.t 19) (xk .i64 8))] (.cond (.t 20) .skip (.exit 0))) (.block 1 (sr [gm 21 1, gg 22 (.bik .rem .u64 (.t 21) 100000000), gg 23 (.cvi .u32 (.t 22)), gm 5 23] (sr [gm 24 1, gg 25 (.bik .quo .u64 (.t 24) 100000000), gm 1 25] (sr [gm 26 5, gg 27 (.bik .quo .u32 (.t 26) 10000), gm 28 5, gg 29 (.bik .rem .u32 (.t 28) 10000), gm 6 27, gm 7 29] (sr [gm 30 7, gg 31 (.bik .quo .u32 (.t 30) 100), gg 32 (.bin .mul (.t 31) (xk .u32 2)), gm 33 7, gg 34 (.bik .rem .u32 (.t 33) 100), gg 35 (.bin .mul (.t 34) (xk .u32 2)), gm 8 32, gm 9 35] (sr [gm 36 6, gg 37 (.bik .quo .u32 (.t 36) 100), gg 38 (.bin .mul (.t 37) (xk .u32 2)), gm 39 6, gg 40 (.bik .rem .u32 (.t 39) 100), gg 41 (.bin .mul (.t 40) (xk .u32 2)), gm 10 38, gm 11 41] (.seq (.drw [(.mk (gm 42 0) 0 true []), (.mk (gm 43 4) 1 true []), (.mk (gg 44 (.bin .sub (.t 43) (xk .i64 1))) 2 true []), (.mk (gm 45 0) 3 true []), (.mk (gm 46 4) 4 true []), (.mk (gg 47 (.bin .sub (.t 46) (xk .i64 2))) 5 true []), (.mk (gm 48 9) 6 true []), (.mk (gg 49 (.bin .add (.t 48) (xk .u32 1))) 7 true []), (.mk (gg 50 (.si (.k (.string (ByteArray.mk #[48, 48, 48, 49, 48, 50, 48, 51, 48, 52, 48, 53, 48, 54, 48, 55, 48, 56, 48, 57, 49, 48, 49, 49, 49, 50, 49, 51, 49, 52, 49, 53, 49, 54, 49, 55, 49, 56, 49, 57, 50, 48, 50, 49, 50, 50, 50, 51, 50, 52, 50, 53, 50, 54, 50, 55, 50, 56, 50, 57, 51, 48, 51, 49, 51, 50, 51, 51, 51, 52, 51, 53, 51, 54, 51, 55, 51, 56, 51, 57, 52, 48, 52, 49, 52, 50, 52, 51, 52, 52, 52, 53, 52, 54, 52, 55, 52, 56, 52, 57, 53, 48, 53, 49, 53, 50, 53, 51, 53, 52, 53, 53, 53, 54, 53, 55, 53, 56, 53, 57, 54, 48, 54, 49, 54, 50, 54, 51, 54, 52, 54, 53, 54, 54, 54, 55, 54, 56, 54, 57, 55, 48, 55, 49, 55, 50, 55, 51, 55, 52, 55, 53, 55, 54, 55, 55, 55, 56, 55, 57, 56, 48, 56, 49, 56, 50, 56, 51, 56, 52, 56, 53, 56, 54, 56, 55, 56, 56, 56, 57, 57, 48, 57, 49, 57, 50, 57, 51, 57, 52, 57, 53, 57, 54, 57, 55, 57, 56, 57, 57]))) (.t 49))) 8 true []), (.mk (gm 51 9) 9 true []), (.mk (gg 52 (.si (.k (.string (ByteArray.mk #[48, 48, 48, 49, 48, 50, 48, 51, 48, 52, 48, 53, 48, 54, 48, 55, 48, 56, 48, 57, 49, 48, 49, 49, 49, 50, 49, 51, 49, 52, 49, 53, 49, 54, 49, 55, 49, 56, 49, 57, 50, 48, 50, 49, 50, 50, 50, 51, 50, 52, 50, 53, 50, 54, 50, 55, 50, 56, 50, 57, 51, 48, 51, 49, 51, 50, 51, 51, 51, 52, 51, 53, 51, 54, 51, 55, 51, 56, 51, 57, 52, 48, 52, 49, 52, 50, 52, 51, 52, 52, 52, 53, 52, 54, 52, 55, 52, 56, 52, 57, 53, 48, 53, 49, 53, 50, 53, 51, 53, 52, 53, 53, 53, 54, 53, 55, 53, 56, 53, 57, 54, 48, 54, 49, 54, 50, 54, 51, 54, 52, 54, 53, 54, 54, 54, 55, 54, 56, 54, 57, 55, 48, 55, 49, 55, 50, 55, 51, 55, 52, 55, 53, 55, 54, 55, 55, 55, 56, 55, 57, 56, 48, 56, 49, 56, 50, 56, 51, 56, 52, 56, 53, 56, 54, 56, 55, 56, 56, 56, 57, 57, 48, 57, 49, 57, 50, 57, 51, 57, 52, 57, 53, 57, 54, 57, 55, 57, 56, 57, 57]))) (.t 51))) 10 true []), (.mk (gg 53 (.ia (.t 42) (.t 44) 1)) 11 true []), (.mk (G.mk none none (.st (.t 53) (.t 50) 1)) 12 false []), (.mk (gg 54 (.ia (.t 45) (.t 47) 1)) 13 true []), (.mk (G.mk none none (.st (.t 54) (.t 52) 1)) 14 false [])]) (.seq (.drw [(.mk (gm 55 0) 0 true []), (.mk (gm 56 4) 1 true []), (.mk (gg 57 (.bin .sub (.t 56) (xk .i64 3))) 2 true []), (.mk (gm 58 0) 3 true []), (.mk (gm 59 4) 4 true []), (.mk (gg 60 (.bin .sub (.t 59) (xk .i64 4))) 5 true []), (.mk (gm 61 8) 6 true []), (.mk (gg 62 (.bin .add (.t 61) (xk .u32 1))) 7 true []), (.mk (gg 63 (.si (.k (.string (ByteArray.mk #[48, 48, 48, 49, 48, 50, 48, 51, 48, 52, 48, 53, 48, 54, 48, 55, 48, 56, 48, 57, 49, 48, 49, 49, 49, 50, 49, 51, 49, 52, 49, 53, 49, 54, 49, 55, 49, 56, 49, 57, 50, 48, 50, 49, 50, 50, 50, 51, 50, 52, 50, 53, 50, 54, 50, 55, 50, 56, 50, 57, 51, 48, 51, 49, 51, 50, 51, 51, 51, 52, 51, 53, 51, 54, 51, 55, 51, 56, 51, 57, 52, 48, 52, 49, 52, 50, 52, 51, 52, 52, 52, 53, 52, 54, 52, 55, 52, 56, 52, 57, 53, 48, 53, 49, 53, 50, 53, 51, 53, 52, 53, 53, 53, 54, 53, 55, 53, 56, 53, 57, 54, 48, 54, 49, 54, 50, 54, 51, 54, 52, 54, 53, 54, 54, 54, 55, 54, 56, 54, 57, 55, 48, 55, 49, 55, 50, 55, 51, 55, 52, 55, 53, 55, 54, 55, 55, 55, 56, 55, 57, 56, 48, 56, 49, 56, 50, 56, 51, 56, 52, 56, 53, 56, 54, 56, 55, 56, 56, 56, 57, 57, 48, 57, 49, 57, 50, 57, 51, 57, 52, 57, 53, 57, 54, 57, 55, 57, 56, 57, 57]))) (.t 62))) 8 true []), (.mk (gm 64 8) 9 true []), (.mk (gg 65 (.si (.k (.string (ByteArray.mk #[48, 48, 48, 49, 48, 50, 48, 51, 48, 52, 48, 53, 48, 54, 48, 55, 48, 56, 48, 57, 49, 48, 49, 49, 49, 50, 49, 51, 49, 52, 49, 53, 49, 54, 49, 55, 49, 56, 49, 57, 50, 48, 50, 49, 50, 50, 50, 51, 50, 52, 50, 53, 50, 54, 50, 55, 50, 56, 50, 57, 51, 48, 51, 49, 51, 50, 51, 51, 51, 52, 51, 53, 51, 54, 51, 55, 51, 56, 51, 57, 52, 48, 52, 49, 52, 50, 52, 51, 52, 52, 52, 53, 52, 54, 52, 55, 52, 56, 52, 57, 53, 48, 53, 49, 53, 50, 53, 51, 53, 52, 53, 53, 53, 54, 53, 55, 53, 56, 53, 57, 54, 48, 54, 49, 54, 50, 54, 51, 54, 52, 54, 53, 54, 54, 54, 55, 54, 56, 54, 57, 55, 48, 55, 49, 55, 50, 55, 51, 55, 52, 55, 53, 55, 54, 55, 55, 55, 56, 55, 57, 56, 48, 56, 49, 56, 50, 56, 51, 56, 52, 56, 53, 56, 54, 56, 55, 56, 56, 56, 57, 57, 48, 57, 49, 57, 50, 57, 51, 57, 52, 57, 53, 57, 54, 57, 55, 57, 56, 57, 57]))) (.t 64))) 10 true []), (.mk (gg 66 (.ia (.t 55) (.t 57) 1)) 11 true []), (.mk (G.mk none none (.st (.t 66) (.t 63) 1)) 12 false []), (.mk (gg 67 (.ia (.t 58) (.t 60) 1)) 13 true []), (.mk (G.mk none none (.st (.t 67) (.t 65) 1)) 14 false [])]) (.seq (.drw [(.mk (gm 68 0) 0 true []), (.mk (gm 69 4) 1 true []), (.mk (gg 70 (.bin .sub (.t 69) (xk .i64 5))) 2 true []), (.mk (gm 71 0) 3 true []), (.mk (gm 72 4) 4 true []), (.mk (gg 73 (.bin .sub (.t 72) (xk .i64 6))) 5 true []), (.mk (gm 74 11) 6 true []), (.mk (gg 75 (.bin .add (.t 74) (xk .u32 1))) 7 true []), (.mk (gg 76 (.si (.k (.string (ByteArray.mk #[48, 48, 48, 49, 48, 50, 48, 51, 48, 52, 48, 53, 48, 54, 48, 55, 48, 56, 48, 57, 49, 48, 49, 49, 49, 50, 49, 51, 49, 52, 49, 53, 49, 54, 49, 55, 49, 56, 49, 57, 50, 48, 50, 49, 50, 50, 50, 51, 50, 52, 50, 53, 50, 54, 50, 55, 50, 56, 50, 57, 51, 48, 51, 49, 51, 50, 51, 51, 51, 52, 51, 53, 51, 54, 51, 55, 51, 56, 51, 57, 52, 48, 52, 49, 52, 50, 52, 51, 52, 52, 52, 53, 52, 54, 52, 55, 52, 56, 52, 57, 53, 48, 53, 49, 53, 50, 53, 51, 53, 52, 53, 53, 53, 54, 53, 55, 53, 56, 53, 57, 54, 48, 54, 49, 54, 50, 54, 51, 54, 52, 54, 53, 54, 54, 54, 55, 54, 56, 54, 57, 55, 48, 55, 49, 55, 50, 55, 51, 55, 52, 55, 53, 55, 54, 55, 55, 55, 56, 55, 57, 56, 48, 56, 49, 56, 50, 56, 51, 56, 52, 56, 53, 56, 54, 56, 55, 56, 56, 56, 57, 57, 48, 57, 49, 57, 50, 57, 51, 57, 52, 57, 53, 57, 54, 57, 55, 57, 56, 57, 57]))) (.t 75))) 8 true []), (.mk (gm 77 11) 9 true []), (.mk (gg 78 (.si (.k (.string (ByteArray.mk #[48, 48, 48, 49, 48, 50, 48, 51, 48, 52, 48, 53, 48, 54, 48, 55, 48, 56, 48, 57, 49, 48, 49, 49, 49, 50, 49, 51, 49, 52, 49, 53, 49, 54, 49, 55, 49, 56, 49, 57, 50, 48, 50, 49, 50, 50, 50, 51, 50, 52, 50, 53, 50, 54, 50, 55, 50, 56, 50, 57, 51, 48, 51, 49, 51, 50, 51, 51, 51, 52, 51, 53, 51, 54, 51, 55, 51, 56, 51, 57, 52, 48, 52, 49, 52, 50, 52, 51, 52, 52, 52, 53, 52, 54, 52, 55, 52, 56, 52, 57, 53, 48, 53, 49, 53, 50, 53, 51, 53, 52, 53, 53, 53, 54, 53, 55, 53, 56, 53, 57, 54, 48, 54, 49, 54, 50, 54, 51, 54, 52, 54, 53, 54, 54, 54, 55, 54, 56, 54, 57, 55, 48, 55, 49, 55, 50, 55, 51, 55, 52, 55, 53, 55, 54, 55, 55, 55, 56, 55, 57, 56, 48, 56, 49, 56, 50, 56, 51, 56, 52, 56, 53, 56, 54, 56, 55, 56, 56, 56, 57, 57, 48, 57, 49, 57, 50, 57, 51, 57, 52, 57, 53, 57, 54, 57, 55, 57, 56, 57, 57]))) (.t 77))) 10 true []), (.mk (gg 79 (.ia (.t 68) (.t 70) 1)) 11 true []), (.mk (G.mk none none (.st (.t 79) (.t 76) 1)) 12 false []), (.mk (gg 80 (.ia (.t 71) (.t 73) 1)) 13 true []), (.mk (G.mk none none (.st (.t 80) (.t 78) 1)) 14 false [])]) (.seq (.drw [(.mk (gm 81 0) 0 true []), (.mk (gm 82 4) 1 true []), (.mk (gg 83 (.bin .sub (.t 82) (xk .i64 7))) 2 true []), (.mk (gm 84 0) 3 true []), (.mk (gm 85 4) 4 true []), (.mk (gg 86 (.bin .sub (.t 85) (xk .i64 8))) 5 true []), (.mk (gm 87 10) 6 true []), (.mk (gg 88 (.bin .add (.t 87) (xk .u32 1))) 7 true []), (.mk (gg 89 (.si (.k (.string (ByteArray.mk #[48, 48, 48, 49, 48, 50, 48, 51, 48, 52, 48, 53, 48, 54, 48, 55, 48, 56, 48, 57, 49, 48, 49, 49, 49, 50, 49, 51, 49, 52, 49, 53, 49, 54, 49, 55, 49, 56, 49, 57, 50, 48, 50, 49, 50, 50, 50, 51, 50, 52, 50, 53, 50, 54, 50, 55, 50, 56, 50, 57, 51, 48, 51, 49, 51, 50, 51, 51, 51, 52, 51, 53, 51, 54, 51, 55, 51, 56, 51, 57, 52, 48, 52, 49, 52, 50, 52, 51, 52, 52, 52, 53, 52, 54, 52, 55, 52, 56, 52, 57, 53, 48, 53, 49, 53, 50, 53, 51, 53, 52, 53, 53, 53, 54, 53, 55, 53, 56, 53, 57, 54, 48, 54, 49, 54, 50, 54, 51, 54, 52, 54, 53, 54, 54, 54, 55, 54, 56, 54, 57, 55, 48, 55, 49, 55, 50, 55, 51, 55, 52, 55, 53, 55, 54, 55, 55, 55, 56, 55, 57, 56, 48, 56, 49, 56, 50, 56, 51, 56, 52, 56, 53, 56, 54, 56, 55, 56, 56, 56, 57, 57, 48, 57, 49, 57, 50, 57, 51, 57, 52, 57, 53, 57, 54, 57, 55, 57, 56, 57, 57]))) (.t 88))) 8 true []), (.mk (gm 90 10) 9 true []), (.mk (gg 91 (.si (.k (.string (ByteArray.mk #[48, 48, 48, 49, 48, 50, 48, 51, 48, 52, 48, 53, 48, 54, 48, 55, 48, 56, 48, 57, 49, 48, 49, 49, 49, 50, 49, 51, 49, 52, 49, 53, 49, 54, 49, 55, 49, 56, 49, 57, 50, 48, 50, 49, 50, 50, 50, 51, 50, 52, 50, 53, 50, 54, 50, 55, 50, 56, 50, 57, 51, 48, 51, 49, 51, 50, 51, 51, 51, 52, 51, 53, 51, 54, 51, 55, 51, 56, 51, 57, 52, 48, 52, 49, 52, 50, 52, 51, 52, 52, 52, 53, 52, 54, 52, 55, 52, 56, 52, 57, 53, 48, 53, 49, 53, 50, 53, 51, 53, 52, 53, 53, 53, 54, 53, 55, 53, 56, 53, 57, 54, 48, 54, 49, 54, 50, 54, 51, 54, 52, 54, 53, 54, 54, 54, 55, 54, 56, 54, 57, 55, 48, 55, 49, 55, 50, 55, 51, 55, 52, 55, 53, 55, 54, 55, 55, 55, 56, 55, 57, 56, 48, 56, 49, 56, 50, 56, 51, 56, 52, 56, 53, 56, 54, 56, 55, 56, 56, 56, 57, 57, 48, 57, 49, 57, 50, 57, 51, 57, 52, 57, 53, 57, 54, 57, 55, 57, 56, 57, 57]))) (.t 90))) 10 true []), (.mk (gg 92 (.ia (.t 81) (.t 83) 1)) 11 true []), (.mk (G.mk none none (.st (.t 92) (.t 89) 1)) 12 false []), (.mk (gg 93 (.ia (.t 84) (.t 86) 1)) 13 true []), (.mk (G.mk none none (.st (.t 93) (.t 91) 1)) 14 false [])]) (.reg [gm 94 4, gg 95 (.bin .sub (.t 94) (xk .i64 8)), gm 4 95])))))))))))))) (sr [gm 96 1, gg 97 (.cvi .u32 (.t 96)), gm 12 97] (.cut (sr [gm 98 4, gg 99 (.bin .geq (.t 98) (xk .i64 4))] (.cond (.t 99) (sr [gm 100 12, gg 101 (.bik .rem .u32 (.t 100) 10000), gm 13 101] (sr [gm 102 12, gg 103 (.bik .quo .u32 (.t 102) 10000), gm 12 103] (sr [gm 104 13, gg 105 (.bik .quo .u32 (.t 104) 100), gg 106 (.bin .mul (.t 105) (xk .u32 2)), gm 107 13, gg 108 (.bik .rem .u32 (.t 107) 100), gg 109 (.bin .mul (.t 108) (xk .u32 2)), gm 14 106, gm 15 109] (.seq (.drw [(.mk (gm 110 0) 0 true []), (.mk (gm 111 4) 1 true []), (.mk (gg 112 (.bin .sub (.t 111) (xk .i64 1))) 2 true []), (.mk (gm 113 0) 3 true []), (.mk (gm 114 4) 4 true []), (.mk (gg 115 (.bin .sub (.t 114) (xk .i64 2))) 5 true []), (.mk (gm 116 15) 6 true []), (.mk (gg 117 (.bin .add (.t 116) (xk .u32 1))) 7 true []), (.mk (gg 118 (.si (.k (.string (ByteArray.mk #[48, 48, 48, 49, 48, 50, 48, 51, 48, 52, 48, 53, 48, 54, 48, 55, 48, 56, 48, 57, 49, 48, 49, 49, 49, 50, 49, 51, 49, 52, 49, 53, 49, 54, 49, 55, 49, 56, 49, 57, 50, 48, 50, 49, 50, 50, 50, 51, 50, 52, 50, 53, 50, 54, 50, 55, 50, 56, 50, 57, 51, 48, 51, 49, 51, 50, 51, 51, 51, 52, 51, 53, 51, 54, 51, 55, 51, 56, 51, 57, 52, 48, 52, 49, 52, 50, 52, 51, 52, 52, 52, 53, 52, 54, 52, 55, 52, 56, 52, 57, 53, 48, 53, 49, 53, 50, 53, 51, 53, 52, 53, 53, 53, 54, 53, 55, 53, 56, 53, 57, 54, 48, 54, 49, 54, 50, 54, 51, 54, 52, 54, 53, 54, 54, 54, 55, 54, 56, 54, 57, 55, 48, 55, 49, 55, 50, 55, 51, 55, 52, 55, 53, 55, 54, 55, 55, 55, 56, 55, 57, 56, 48, 56, 49, 56, 50, 56, 51, 56, 52, 56, 53, 56, 54, 56, 55, 56, 56, 56, 57, 57, 48, 57, 49, 57, 50, 57, 51, 57, 52, 57, 53, 57, 54, 57, 55, 57, 56, 57, 57]))) (.t 117))) 8 true []), (.mk (gm 119 15) 9 true []), (.mk (gg 120 (.si (.k (.string (ByteArray.mk #[48, 48, 48, 49, 48, 50, 48, 51, 48, 52, 48, 53, 48, 54, 48, 55, 48, 56, 48, 57, 49, 48, 49, 49, 49, 50, 49, 51, 49, 52, 49, 53, 49, 54, 49, 55, 49, 56, 49, 57, 50, 48, 50, 49, 50, 50, 50, 51, 50, 52, 50, 53, 50, 54, 50, 55, 50, 56, 50, 57, 51, 48, 51, 49, 51, 50, 51, 51, 51, 52, 51, 53, 51, 54, 51, 55, 51, 56, 51, 57, 52, 48, 52, 49, 52, 50, 52, 51, 52, 52, 52, 53, 52, 54, 52, 55, 52, 56, 52, 57, 53, 48, 53, 49, 53, 50, 53, 51, 53, 52, 53, 53, 53, 54, 53, 55, 53, 56, 53, 57, 54, 48, 54, 49, 54, 50, 54, 51, 54, 52, 54, 53, 54, 54, 54, 55, 54, 56, 54, 57, 55, 48, 55, 49, 55, 50, 55, 51, 55, 52, 55, 53, 55, 54, 55, 55, 55, 56, 55, 57, 56, 48, 56, 49, 56, 50, 56, 51, 56, 52, 56, 53, 56, 54, 56, 55, 56, 56, 56, 57, 57, 48, 57, 49, 57, 50, 57, 51, 57, 52, 57, 53, 57, 54, 57, 55, 57, 56, 57, 57]))) (.t 119))) 10 true []), (.mk (gg 121 (.ia (.t 110) (.t 112) 1)) 11 true []), (.mk (G.mk none none (.st (.t 121) (.t 118) 1)) 12 false []), (.mk (gg 122 (.ia (.t 113) (.t 115) 1)) 13 true []), (.mk (G.mk none none (.st (.t 122) (.t 120) 1)) 14 false [])]) (.seq (.drw [(.mk (gm 123 0) 0 true []), (.mk (gm 124 4) 1 true []), (.mk (gg 125 (.bin .sub (.t 124) (xk .i64 3))) 2 true []), (.mk (gm 126 0) 3 true []), (.mk (gm 127 4) 4 true []), (.mk (gg 128 (.bin .sub (.t 127) (xk .i64 4))) 5 true []), (.mk (gm 129 14) 6 true []), (.mk (gg 130 (.bin .add (.t 129) (xk .u32 1))) 7 true []), (.mk (gg 131 (.si (.k (.string (ByteArray.mk #[48, 48, 48, 49, 48, 50, 48, 51, 48, 52, 48, 53, 48, 54, 48, 55, 48, 56, 48, 57, 49, 48, 49, 49, 49, 50, 49, 51, 49, 52, 49, 53, 49, 54, 49, 55, 49, 56, 49, 57, 50, 48, 50, 49, 50, 50, 50, 51, 50, 52, 50, 53, 50, 54, 50, 55, 50, 56, 50, 57, 51, 48, 51, 49, 51, 50, 51, 51, 51, 52, 51, 53, 51, 54, 51, 55, 51, 56, 51, 57, 52, 48, 52, 49, 52, 50, 52, 51, 52, 52, 52, 53, 52, 54, 52, 55, 52, 56, 52, 57, 53, 48, 53, 49, 53, 50, 53, 51, 53, 52, 53, 53, 53, 54, 53, 55, 53, 56, 53, 57, 54, 48, 54, 49, 54, 50, 54, 51, 54, 52, 54, 53, 54, 54, 54, 55, 54, 56, 54, 57, 55, 48, 55, 49, 55, 50, 55, 51, 55, 52, 55, 53, 55, 54, 55, 55, 55, 56, 55, 57, 56, 48, 56, 49, 56, 50, 56, 51, 56, 52, 56, 53, 56, 54, 56, 55, 56, 56, 56, 57, 57, 48, 57, 49, 57, 50, 57, 51, 57, 52, 57, 53, 57, 54, 57, 55, 57, 56, 57, 57]))) (.t 130))) 8 true []), (.mk (gm 132 14) 9 true []), (.mk (gg 133 (.si (.k (.string (ByteArray.mk #[48, 48, 48, 49, 48, 50, 48, 51, 48, 52, 48, 53, 48, 54, 48, 55, 48, 56, 48, 57, 49, 48, 49, 49, 49, 50, 49, 51, 49, 52, 49, 53, 49, 54, 49, 55, 49, 56, 49, 57, 50, 48, 50, 49, 50, 50, 50, 51, 50, 52, 50, 53, 50, 54, 50, 55, 50, 56, 50, 57, 51, 48, 51, 49, 51, 50, 51, 51, 51, 52, 51, 53, 51, 54, 51, 55, 51, 56, 51, 57, 52, 48, 52, 49, 52, 50, 52, 51, 52, 52, 52, 53, 52, 54, 52, 55, 52, 56, 52, 57, 53, 48, 53, 49, 53, 50, 53, 51, 53, 52, 53, 53, 53, 54, 53, 55, 53, 56, 53, 57, 54, 48, 54, 49, 54, 50, 54, 51, 54, 52, 54, 53, 54, 54, 54, 55, 54, 56, 54, 57, 55, 48, 55, 49, 55, 50, 55, 51, 55, 52, 55, 53, 55, 54, 55, 55, 55, 56, 55, 57, 56, 48, 56, 49, 56, 50, 56, 51, 56, 52, 56, 53, 56, 54, 56, 55, 56, 56, 56, 57, 57, 48, 57, 49, 57, 50, 57, 51, 57, 52, 57, 53, 57, 54, 57, 55, 57, 56, 57, 57]))) (.t 132))) 10 true []), (.mk (gg 134 (.ia (.t 123) (.t 125) 1)) 11 true []), (.mk (G.mk none none (.st (.t 134) (.t 131) 1)) 12 false []), (.mk (gg 135 (.ia (.t 126) (.t 128) 1)) 13 true []), (.mk (G.mk none none (.st (.t 135) (.t 133) 1)) 14 false [])]) (.reg [gm 136 4, gg 137 (.bin .sub (.t 136) (xk .i64 4)), gm 4 137])))))) .skip)) (.cut (sr [gm 138 4, gg 139 (.bin .geq (.t 138) (xk .i64 2))] (.cond (.t 139) (sr [gm 140 12, gg 141 (.bik .rem .u32 (.t 140) 100), gg 142 (.bin .mul (.t 141) (xk .u32 2)), gm 16 142] (sr [gm 143 12, gg 144 (.bik .quo .u32 (.t 143) 100), gm 12 144] (.seq (.drw [(.mk (gm 145 0) 0 true []), (.mk (gm 146 4) 1 true []), (.mk (gg 147 (.bin .sub (.t 146) (xk .i64 1))) 2 true []), (.mk (gm 148 0) 3 true []), (.mk (gm 149 4) 4 true []), (.mk (gg 150 (.bin .sub (.t 149) (xk .i64 2))) 5 true []), (.mk (gm 151 16) 6 true []), (.mk (gg 152 (.bin .add (.t 151) (xk .u32 1))) 7 true []), (.mk (gg 153 (.si (.k (.string (ByteArray.mk #[48, 48, 48, 49, 48, 50, 48, 51, 48, 52, 48, 53, 48, 54, 48, 55, 48, 56, 48, 57, 49, 48, 49, 49, 49, 50, 49, 51, 49, 52, 49, 53, 49, 54, 49, 55, 49, 56, 49, 57, 50, 48, 50, 49, 50, 50, 50, 51, 50, 52, 50, 53, 50, 54, 50, 55, 50, 56, 50, 57, 51, 48, 51, 49, 51, 50, 51, 51, 51, 52, 51, 53, 51, 54, 51, 55, 51, 56, 51, 57, 52, 48, 52, 49, 52, 50, 52, 51, 52, 52, 52, 53, 52, 54, 52, 55, 52, 56, 52, 57, 53, 48, 53, 49, 53, 50, 53, 51, 53, 52, 53, 53, 53, 54, 53, 55, 53, 56, 53, 57, 54, 48, 54, 49, 54, 50, 54, 51, 54, 52, 54, 53, 54, 54, 54, 55, 54, 56, 54, 57, 55, 48, 55, 49, 55, 50, 55, 51, 55, 52, 55, 53, 55, 54, 55, 55, 55, 56, 55, 57, 56, 48, 56, 49, 56, 50, 56, 51, 56, 52, 56, 53, 56, 54, 56, 55, 56, 56, 56, 57, 57, 48, 57, 49, 57, 50, 57, 51, 57, 52, 57, 53, 57, 54, 57, 55, 57, 56, 57, 57]))) (.t 152))) 8 true []), (.mk (gm 154 16) 9 true []), (.mk (gg 155 (.si (.k (.string (ByteArray.mk #[48, 48, 48, 49, 48, 50, 48, 51, 48, 52, 48, 53, 48, 54, 48, 55, 48, 56, 48, 57, 49, 48, 49, 49, 49, 50, 49, 51, 49, 52, 49, 53, 49, 54, 49, 55, 49, 56, 49, 57, 50, 48, 50, 49, 50, 50, 50, 51, 50, 52, 50, 53, 50, 54, 50, 55, 50, 56, 50, 57, 51, 48, 51, 49, 51, 50, 51, 51, 51, 52, 51, 53, 51, 54, 51, 55, 51, 56, 51, 57, 52, 48, 52, 49, 52, 50, 52, 51, 52, 52, 52, 53, 52, 54, 52, 55, 52, 56, 52, 57, 53, 48, 53, 49, 53, 50, 53, 51, 53, 52, 53, 53, 53, 54, 53, 55, 53, 56, 53, 57, 54, 48, 54, 49, 54, 50, 54, 51, 54, 52, 54, 53, 54, 54, 54, 55, 54, 56, 54, 57, 55, 48, 55, 49, 55, 50, 55, 51, 55, 52, 55, 53, 55, 54, 55, 55, 55, 56, 55, 57, 56, 48, 56, 49, 56, 50, 56, 51, 56, 52, 56, 53, 56, 54, 56, 55, 56, 56, 56, 57, 57, 48, 57, 49, 57, 50, 57, 51, 57, 52, 57, 53, 57, 54, 57, 55, 57, 56, 57, 57]))) (.t 154))) 10 true []), (.mk (gg 156 (.ia (.t 145) (.t 147) 1)) 11 true []), (.mk (G.mk none none (.st (.t 156) (.t 153) 1)) 12 false []), (.mk (gg 157 (.ia (.t 148) (.t 150) 1)) 13 true []), (.mk (G.mk none none (.st (.t 157) (.t 155) 1)) 14 false [])]) (.reg [gm 158 4, gg 159 (.bin .sub (.t 158) (xk .i64 2)), gm 4 159])))) .skip)) (sr [gm 160 4, gg 161 (.bin .gtr (.t 160) (xk .i64 0))] (.cond (.t 161) (.reg [gm 162 0, gm 163 12, gg 164 (.bin .add (xk .u32 48) (.t 163)), gg 165 (.cvi .u8 (.t 164)), gg 166 (.ia (.t 162) (xk .i64 0) 1), (G.mk none none (.st (.t 166) (.t 165) 1))]) .skip))))))) 2 []) := by kernel_rfl
theorem c123_ : compF Tryz.prog 123 = some (.mk (sr [gg 2 (.mov (xk .i64 0))] (sr [gm 3 0, gg 4 (.bin .mul (.t 3) (xk .i64 78913)), gg 5 (.bik .shr .u64 (.t 4) 18), gm 2 5] .ret)) 1 [(.t 2)]) := by kernel_rfl
theorem c124_ : compF Tryz.prog 124 = some (.mk (sr [gg 2 (.mov (xk .i64 0))] (.cut (sr [gm 3 0, gg 4 (.bin .geq (.t 3) (xk .u64 4294967296))] (.cond (.t 4) (sr [gm 5 0, gg 6 (.bik .shr .u64 (.t 5) 32), gm 0 6] (.reg [gg 2 (.mov (xk .i64 32))])) .skip)) (.cut (sr [gm 7 0, gg 8 (.bin .geq (.t 7) (xk .u64 65536))] (.cond (.t 8) (sr [gm 9 0, gg 10 (.bik .shr .u64 (.t 9) 16), gm 0 10] (.reg [gm 11 2, gg 12 (.bin .add (.t 11) (xk .i64 16)), gm 2 12])) .skip)) (.cut (sr [gm 13 0, gg 14 (.bin .geq (.t 13) (xk .u64 256))] (.cond (.t 14) (sr [gm 15 0, gg 16 (.bik .shr .u64 (.t 15) 8), gm 0 16] (.reg [gm 17 2, gg 18 (.bin .add (.t 17) (xk .i64 8)), gm 2 18])) .skip)) (sr [gm 19 2, gm 20 0, gg 21 (.cvi .u8 (.t 20)), gg 22 (.si (.k (.string (ByteArray.mk #[0, 1, 2, 2, 3, 3, 3, 3, 4, 4, 4, 4, 4, 4, 4, 4, 5, 5, 5, 5, 5, 5, 5, 5, 5, 5, 5, 5, 5, 5, 5, 5, 6, 6, 6, 6, 6, 6, 6, 6, 6, 6, 6, 6, 6, 6, 6, 6, 6, 6, 6, 6, 6, 6, 6, 6, 6, 6, 6, 6, 6, 6, 6, 6, 7, 7, 7, 7, 7, 7, 7, 7, 7, 7, 7, 7, 7, 7, 7, 7, 7, 7, 7, 7, 7, 7, 7, 7, 7, 7, 7, 7, 7, 7, 7, 7, 7, 7, 7, 7, 7, 7, 7, 7, 7, 7, 7, 7, 7, 7, 7, 7, 7, 7, 7, 7, 7, 7, 7, 7, 7, 7, 7, 7, 7, 7, 7, 7, 8, 8, 8, 8, 8, 8, 8, 8, 8, 8, 8, 8, 8, 8, 8, 8, 8, 8, 8, 8, 8, 8, 8, 8, 8, 8, 8, 8, 8, 8, 8, 8, 8, 8, 8, 8, 8, 8, 8, 8, 8, 8, 8, 8, 8, 8, 8, 8, 8, 8, 8, 8, 8, 8, 8, 8, 8, 8, 8, 8, 8, 8, 8, 8, 8, 8, 8, 8, 8, 8, 8, 8, 8, 8, 8, 8, 8, 8, 8, 8, 8, 8, 8, 8, 8, 8, 8, 8, 8, 8, 8, 8, 8, 8, 8, 8, 8, 8, 8, 8, 8, 8, 8, 8, 8, 8, 8, 8, 8, 8, 8, 8, 8, 8, 8, 8, 8, 8, 8, 8, 8, 8, 8, 8, 8, 8, 8, 8]))) (.t 21)), gg 23 (.cvi .i64 (.t 22)), gg 24 (.bin .add (.t 19) (.t 23)), gm 2 24] .ret))))) 1 [(.t 2)]) := by kernel_rfl
theorem c125_ : compF Tryz.prog 125 = some (.mk (sr [gg 2 (.mov (xk .i64 0))] (.cut (sr [gm 3 0] (.cond (.t 3) (sr [gg 2 (.mov (xk .i64 1))] .ret) .skip)) (sr [gg 2 (.mov (xk .i64 0))] .ret))) 1 [(.t 2)]) := by kernel_rfl
theorem c42_ : compF Tryz.prog 42 = some (.mk (sr [gg 2 (.mov (.k (.string (ByteArray.mk #[]))))] (sr [gg 3 (.mov (.k (.string (ByteArray.mk #[91]))))] (.cut (sr [gm 6 0, gg 7 (.len false (.t 6)), gg 8 (.mov (xk .i64 0))] (.block 0 (.loop (sr [gg 9 (.bin .lss (.t 8) (.t 7))] (.seq (.cond (.t 9) .skip (.exit 0)) (.cut (.block 1 (sr [gg 10 (.ia (.t 6) (.t 8) 1), gg 11 (.ld (.t 10) none), gm 5 11] (.cut (sr [gm 12 5, gg 13 (.cvi .u64 (.t 12)), gg 14 (.bin .geq (.t 13) (xk .u64 9223372036854775808)), gm 15 14, gq 16 15 true (.mov (.t 5)), gq 17 15 true (.bin .gtr (.t 16) (xk .i64 0)), gg 18 (.pick (.t 15) (.t 17) (.k (.bool false)))] (.cond (.t 18) (sr [gm 19 3, gm 20 5, gg 21 (.cvi .u64 (.t 20)), gg 22 (.call 31 [(.t 21), (xk .i64 10)]), gg 23 (.bin .add (.t 22) (.k (.string (ByteArray.mk #[32])))), gg 24 (.bin .add (.t 19) (.t 23)), gm 3 24] (.exit 1)) .skip)) (.reg [gm 25 3, gm 26 5, gg 27 (.call 32 [(.t 26), (xk .i64 10)]), gg 28 (.bin .add (.t 27) (.k (.string (ByteArray.mk #[32])))), gg 29 (.bin .add (.t 25) (.t 28)), gm 3 29])))) (.reg [gg 30 (.bin .add (.t 8) (xk .i64 1)), gm 8 30]))))))) (sr [gm 31 3, gg 32 (.bin .add (.t 31) (.k (.string (ByteArray.mk #[93])))), gm 2 32] .ret)))) 1 [(.t 2)]) := by kernel_rfl
theorem c43_ : compF Tryz.prog 43 = some (.mk (sr [gg 2 (.mov (.k (.string (ByteArray.mk #[]))))] (sr [gg 3 (.mov (.k (.string (ByteArray.mk #[91]))))] (.cut (sr [gm 6 0, gg 7 (.len false (.t 6)), gg 8 (.mov (xk .i64 0))] (.block 0 (.loop (sr [gg 9 (.bin .lss (.t 8) (.t 7))] (.seq (.cond (.t 9) .skip (.exit 0)) (.cut (.block 1 (sr [gg 10 (.ia (.t 6) (.t 8) 1), gg 11 (.ld (.t 10) none), gm 5 11] (.cut (sr [gm 12 5, gg 13 (.cvi .u64 (.t 12)), gg 14 (.bin .geq (.t 13) (xk .u64 9223372036854775808)), gm 15 14, gq 16 15 true (.mov (.t 5)), gq 17 15 true (.bin .gtr (.t 16) (xk .i64 0)), gg 18 (.pick (.t 15) (.t 17) (.k (.bool false)))] (.cond (.t 18) (sr [gm 19 3, gm 20 5, gg 21 (.cvi .u64 (.t 20)), gg 22 (.call 31 [(.t 21), (xk .i64 10)]), gg 23 (.bin .add (.t 22) (.k (.string (ByteArray.mk #[32])))), gg 24 (.bin .add (.t 19) (.t 23)), gm 3 24] (.exit 1)) .skip)) (.reg [gm 25 3, gm 26 5, gg 27 (.call 32 [(.t 26), (xk .i64 10)]), gg 28 (.bin .add (.t 27) (.k (.string (ByteArray.mk #[32])))), gg 29 (.bin .add (.t 25) (.t 28)), gm 3 29])))) (.reg [gg 30 (.bin .add (.t 8) (xk .i64 1)), gm 8 30]))))))) (sr [gm 31 3, gg 32 (.bin .add (.t 31) (.k (.string (ByteArray.mk #[93])))), gm 2 32] .ret)))) 1 [(.t 2)]) := by kernel_rfl
end Go.Proofs.YtokkphocaloelaaGreatDoor

end
section
namespace Go.Proofs.YtokkphocaloelaaGreatDoor
open Go Go.Vc
set_option maxRecDepth 100000
set_option maxHeartbeats 8000000

def digs (n u : Nat) : List Int := (List.range n).map fun i => ((48 + u / 10 ^ (n - 1 - i) % 10 : Nat) : Int)
theorem digs_len (n u : Nat) : (digs n u).length = n := by unfold digs; rw [List.length_map, List.length_range]
theorem digs_get {n u i : Nat} (h : i < n) : (digs n u)[i]? = some ((48 + u / 10 ^ (n - 1 - i) % 10 : Nat) : Int) := by
 unfold digs
 rw [List.getElem?_map, List.getElem?_range h]
 rfl
def part (xs D : List Int) (o m : Nat) : List Int := xs.take (o + m) ++ (D.drop m ++ xs.drop (o + D.length))
theorem part_all (xs D : List Int) (o : Nat) : part xs D o D.length = xs := by
 unfold part
 rw [List.drop_length, List.nil_append, List.take_append_drop]
theorem part_len (xs D : List Int) (o m : Nat) (h : o + D.length ≤ xs.length) (hm : m ≤ D.length) : (part xs D o m).length = xs.length := by
 unfold part
 rw [List.length_append, List.length_append, List.length_take, List.length_drop, List.length_drop]
 omega
theorem part_set {xs D : List Int} {o m : Nat} {y : Int} (h : o + D.length ≤ xs.length) (hm : m < D.length) (hy : D[m]? = some y) : (part xs D o (m + 1)).set (o + m) y = part xs D o m := by
 unfold part
 apply List.ext_getElem?
 intro i
 have hl : (xs.take (o + (m + 1))).length = o + (m + 1) := by rw [List.length_take]; omega
 have hl2 : (xs.take (o + m)).length = o + m := by rw [List.length_take]; omega
 rw [List.getElem?_set]
 split
 · rename_i c
   subst c
   rw [if_pos (by rw [List.length_append, hl]; omega), List.getElem?_append_right (by omega), hl2, Nat.sub_self, List.getElem?_append_left (by rw [List.length_drop]; omega), List.getElem?_drop, Nat.add_zero, hy]
 · rcases Nat.lt_or_ge i (o + m) with c | c
   · rw [List.getElem?_append_left (by omega), List.getElem?_append_left (by omega), List.getElem?_take, List.getElem?_take, if_pos (by omega), if_pos c]
   · rw [List.getElem?_append_right (l₁ := xs.take (o + (m + 1))) (by omega), List.getElem?_append_right (l₁ := xs.take (o + m)) (by omega), hl, hl2]
     rw [show D.drop m = y :: D.drop (m + 1) by rw [List.drop_eq_getElem_cons hm]; congr 1; rw [List.getElem?_eq_getElem hm] at hy; exact Option.some.inj hy]
     rw [show i - (o + m) = (i - (o + (m + 1))) + 1 by omega, List.cons_append, List.getElem?_cons_succ]
theorem part_get {xs D : List Int} {o m j : Nat} (h : o + D.length ≤ xs.length) (hj : o + j < xs.length) (hm : m ≤ D.length) : ∃ x, (part xs D o m)[o + j]? = some x :=
 ⟨_, List.getElem?_eq_getElem (by rw [part_len xs D o m h hm]; exact hj)⟩
def smalls : ByteArray := ByteArray.mk #[48, 48, 48, 49, 48, 50, 48, 51, 48, 52, 48, 53, 48, 54, 48, 55, 48, 56, 48, 57, 49, 48, 49, 49, 49, 50, 49, 51, 49, 52, 49, 53, 49, 54, 49, 55, 49, 56, 49, 57, 50, 48, 50, 49, 50, 50, 50, 51, 50, 52, 50, 53, 50, 54, 50, 55, 50, 56, 50, 57, 51, 48, 51, 49, 51, 50, 51, 51, 51, 52, 51, 53, 51, 54, 51, 55, 51, 56, 51, 57, 52, 48, 52, 49, 52, 50, 52, 51, 52, 52, 52, 53, 52, 54, 52, 55, 52, 56, 52, 57, 53, 48, 53, 49, 53, 50, 53, 51, 53, 52, 53, 53, 53, 54, 53, 55, 53, 56, 53, 57, 54, 48, 54, 49, 54, 50, 54, 51, 54, 52, 54, 53, 54, 54, 54, 55, 54, 56, 54, 57, 55, 48, 55, 49, 55, 50, 55, 51, 55, 52, 55, 53, 55, 54, 55, 55, 55, 56, 55, 57, 56, 48, 56, 49, 56, 50, 56, 51, 56, 52, 56, 53, 56, 54, 56, 55, 56, 56, 56, 57, 57, 48, 57, 49, 57, 50, 57, 51, 57, 52, 57, 53, 57, 54, 57, 55, 57, 56, 57, 57]
theorem smalls_hi : ∀ k, k < 100 → smalls[k * 2]? = some (UInt8.ofNat (48 + k / 10)) := by decide +kernel
theorem smalls_lo : ∀ k, k < 100 → smalls[k * 2 + 1]? = some (UInt8.ofNat (48 + k % 10)) := by decide +kernel
theorem si_hi {k : Nat} (h : k < 100) : (if (0 : Int) ≤ ((k * 2 : Nat) : Int) then smalls[((k * 2 : Nat) : Int).toNat]? else none) = some (UInt8.ofNat (48 + k / 10)) := by
 rw [if_pos (by omega), Int.toNat_natCast]
 exact smalls_hi k h
theorem si_lo {k : Nat} (h : k < 100) : (if (0 : Int) ≤ ((k * 2 + 1 : Nat) : Int) then smalls[((k * 2 + 1 : Nat) : Int).toNat]? else none) = some (UInt8.ofNat (48 + k % 10)) := by
 rw [if_pos (by omega), Int.toNat_natCast]
 exact smalls_lo k h
theorem u8_nat {n : Nat} (h : n < 256) : (((UInt8.ofNat n).toNat : Nat) : Int) = (n : Int) := by
 rw [UInt8.toNat_ofNat', Nat.mod_eq_of_lt h]
theorem len64W (w0 : World) (H : List Blk) {n : Nat} (hn : n < 18446744073709551616) : CallsA Tryz.prog w0 124 [.c (.val (.int .u64 n))] H fun r H' => r = i64 (len n) ∧ H' = H := by
 refine CallsA_frame rfl rfl ?_ H
 refine callsA_of_ev c124_ ?_
 conv => whnf
 refine Or.inr ⟨{p : Nat × Nat // p.1 < 4294967296 ∧ len n = p.2 + len p.1 ∧ p.2 ≤ 32}, fun p => ⟨[(0, .o (.c (.val (.int .u64 (p.1.1 : Nat))))), (2, .o (.c (.val (.int .i64 (p.1.2 : Nat)))))], []⟩, ?_, ?_⟩
 · conv => whnf
   refine ⟨fun h1 => ?_, fun h1 => ?_⟩
   · have h1 : 4294967296 ≤ n := ge_t h1
     conv => whnf
     simp (disch := omega) only [nshr64]
     refine ⟨⟨(n / 2 ^ 32, 32), by simp only; omega, ?_, by simp⟩, embNil ⟨rfl, rfl, trivial⟩⟩
     rw [len_div (j := 32) h1]
     simp only
     omega
   · have h1 : n < 4294967296 := ge_f h1
     conv => whnf
     exact ⟨⟨(n, 0), h1, by simp, by simp⟩, embNil ⟨rfl, rfl, trivial⟩⟩
 rintro ⟨⟨x, b⟩, hx, hl, hb⟩
 simp only at hx hl hb
 conv => whnf
 refine Or.inr ⟨{p : Nat × Nat // p.1 < 65536 ∧ len n = p.2 + len p.1 ∧ p.2 ≤ 48}, fun p => ⟨[(0, .o (.c (.val (.int .u64 (p.1.1 : Nat))))), (2, .o (.c (.val (.int .i64 (p.1.2 : Nat)))))], []⟩, ?_, ?_⟩
 · conv => whnf
   refine ⟨fun h1 => ?_, fun h1 => ?_⟩
   · have h1 : 65536 ≤ x := ge_t h1
     conv => whnf
     refine ⟨⟨(x / 2 ^ 16, b + 16), by simp only; omega, ?_, by simp only; omega⟩, embNil ⟨?_, ?_, trivial⟩⟩
     · rw [hl, len_div (j := 16) h1]
       simp only
       omega
     · refine eq_u64 ?_
       rw [nshr64 _ _ (by omega)]
     · refine eq_i64 ?_
       show IntKind.i64.wrap ((b : Int) + ((16 : Nat) : Int)) = _
       rw [nadd, nwrapi (by omega)]
   · have h1 : x < 65536 := ge_f h1
     conv => whnf
     exact ⟨⟨(x, b), h1, hl, by simp only; omega⟩, embNil ⟨rfl, rfl, trivial⟩⟩
 clear hb hl hx x b
 rintro ⟨⟨x, b⟩, hx, hl, hb⟩
 simp only at hx hl hb
 conv => whnf
 refine Or.inr ⟨{p : Nat × Nat // p.1 < 256 ∧ len n = p.2 + len p.1 ∧ p.2 ≤ 56}, fun p => ⟨[(0, .o (.c (.val (.int .u64 (p.1.1 : Nat))))), (2, .o (.c (.val (.int .i64 (p.1.2 : Nat)))))], []⟩, ?_, ?_⟩
 · conv => whnf
   refine ⟨fun h1 => ?_, fun h1 => ?_⟩
   · have h1 : 256 ≤ x := ge_t h1
     conv => whnf
     refine ⟨⟨(x / 2 ^ 8, b + 8), by simp only; omega, ?_, by simp only; omega⟩, embNil ⟨?_, ?_, trivial⟩⟩
     · rw [hl, len_div (j := 8) h1]
       simp only
       omega
     · refine eq_u64 ?_
       rw [nshr64 _ _ (by omega)]
     · refine eq_i64 ?_
       show IntKind.i64.wrap ((b : Int) + ((8 : Nat) : Int)) = _
       rw [nadd, nwrapi (by omega)]
   · have h1 : x < 256 := ge_f h1
     conv => whnf
     exact ⟨⟨(x, b), h1, hl, by simp only; omega⟩, embNil ⟨rfl, rfl, trivial⟩⟩
 clear hb hl hx x b
 rintro ⟨⟨x, b⟩, hx, hl, hb⟩
 simp only at hx hl hb
 have hl8 := len_le (n := x) (k := 8) hx
 conv => whnf
 refine ⟨UInt8.ofNat (len x), ?_, ?_⟩
 · show (if 0 ≤ IntKind.u8.wrap (x : Int) then lens[(IntKind.u8.wrap (x : Int)).toNat]? else none) = _
   rw [nwrap8 hx, if_pos (by omega), Int.toNat_natCast]
   exact lens_get x hx
 · conv => whnf
   refine Or.inl ⟨i64_of ?_, rfl⟩
   have e1 : (UInt8.ofNat (len x)).toNat = len x := by
     rw [UInt8.toNat_ofNat']
     omega
   show IntKind.i64.wrap ((b : Int) + IntKind.i64.wrap (((UInt8.ofNat (len x)).toNat : Nat) : Int)) = _
   rw [e1, nwrapi (by omega), nadd, nwrapi (by omega), hl]
theorem log10W (w0 : World) (H : List Blk) {n : Nat} (hn : n ≤ 64) : CallsA Tryz.prog w0 123 [.c (.val (.int .i64 n))] H fun r H' => r = i64 ((n * 78913 / 2 ^ 18 : Nat) : Int) ∧ H' = H := by
 refine CallsA_frame rfl rfl ?_ H
 refine callsA_of_ev c123_ ?_
 conv => whnf
 refine Or.inl ⟨i64_of ?_, rfl⟩
 show ((IntKind.i64.wrap ((n : Int) * ((78913 : Nat) : Int))).fdiv ((2 : Int) ^ min 18 IntKind.i64.bits)) = _
 rw [nmul, nwrapi (by omega), nshri _ _ (by omega)]
theorem bool2W (w0 : World) (H : List Blk) (b : Bool) : CallsA Tryz.prog w0 125 [.c (.val (.bool b))] H fun r H' => r = i64 ((if b = true then 1 else 0 : Nat) : Int) ∧ H' = H := by
 refine CallsA_frame rfl rfl ?_ H
 refine callsA_of_ev c125_ ?_
 conv => whnf
 refine Or.inl ?_
 conv => whnf
 refine ⟨fun g => ?_, fun g => ?_⟩
 · subst g
   conv => whnf
   exact Or.inl ⟨rfl, rfl⟩
 · subst g
   conv => whnf
   exact Or.inl ⟨rfl, rfl⟩
def ndig (u : Nat) : Nat := len u * 78913 / 2 ^ 18 + if 10 ^ (len u * 78913 / 2 ^ 18) ≤ u then 1 else 0
theorem log_fact : ∀ l, l ≤ 64 → 2 ^ l ≤ 10 ^ (l * 78913 / 2 ^ 18 + 1) ∧ l * 78913 / 2 ^ 18 < 20 := by decide +kernel
theorem ndig_le {u : Nat} (h : u < 18446744073709551616) : ndig u ≤ 20 := by
 have := (log_fact (len u) (len_le (k := 64) h)).2
 unfold ndig
 split <;> omega
theorem lt_ndig {u : Nat} (h : u < 18446744073709551616) : u < 10 ^ ndig u := by
 have h1 := (log_fact (len u) (len_le (k := 64) h)).1
 unfold ndig
 split
 · refine Nat.lt_of_lt_of_le ?_ h1
   by_cases h0 : u = 0
   · rw [h0]
     exact Nat.two_pow_pos _
   · obtain ⟨k, e1, _, e3⟩ := len_spec h0
     rw [e1]
     exact e3
 · rw [Nat.add_zero]
   omega
theorem ndig_pos {u : Nat} (h : 1 ≤ u) (h2 : u < 18446744073709551616) : 1 ≤ ndig u := by
 have := lt_ndig h2
 rcases Nat.eq_zero_or_pos (ndig u) with c | c
 · rw [c] at this
   omega
 · exact c
def pows (w0 : World) : Prop := ∀ i, i < 20 → w0.cell? ((Addr.mk 6 0 none).add (i * 1)) = some (.int .u64 ((10 ^ i : Nat) : Int))
theorem numDigitsW (w0 : World) (H : List Blk) (hp : pows w0) {u : Nat} (hu : u < 18446744073709551616) : CallsA Tryz.prog w0 99 [.c (.val (.int .u64 u))] H fun r H' => r = i64 (ndig u) ∧ H' = H := by
 refine CallsA_frame rfl rfl ?_ H
 have hl := len_le (n := u) (k := 64) hu
 have hf := (log_fact (len u) hl).2
 refine callsA_of_ev c99_ ?_
 conv => whnf
 refine (len64W w0 [] hu).mono ?_
 rintro _ _ ⟨rfl, rfl⟩
 conv => whnf
 refine (log10W w0 [] hl).mono ?_
 rintro _ _ ⟨rfl, rfl⟩
 obtain ⟨t, ht⟩ : ∃ t, t = len u * 78913 / 2 ^ 18 := ⟨_, rfl⟩
 rw [← ht] at hf ⊢
 conv => whnf
 refine ⟨by omega, ?_⟩
 conv => whnf
 refine ⟨_, hp t hf, rfl, ?_⟩
 conv => whnf
 refine (bool2W w0 [] _).mono ?_
 rintro _ _ ⟨rfl, rfl⟩
 conv => whnf
 refine Or.inl ⟨i64_of ?_, rfl⟩
 show IntKind.i64.wrap ((t : Int) + (((if decide (((u : Nat) : Int) ≥ ((10 ^ t : Nat) : Int)) = true then 1 else 0) : Nat) : Int)) = _
 have e : (if decide (((u : Nat) : Int) ≥ ((10 ^ t : Nat) : Int)) = true then 1 else 0) = (if 10 ^ t ≤ u then 1 else 0 : Nat) := by
   by_cases g : 10 ^ t ≤ u
   · rw [if_pos g, if_pos (decide_eq_true (by exact_mod_cast g))]
   · rw [if_neg g, if_neg (by rw [decide_eq_false (by intro g2; exact g (by exact_mod_cast g2))]; decide)]
 rw [e]
 unfold ndig
 rw [← ht, nadd, nwrapi (by split <;> omega)]
theorem smallW (w0 : World) (H : List Blk) {n : Nat} (hn : n < 100) : CallsA Tryz.prog w0 98 [.c (.val (.int .i64 n))] H fun r H' => r = .o (.c (.val (.string (strOf (if n < 10 then digs 1 n else digs 2 n))))) ∧ H' = H := by
 refine CallsA_frame rfl rfl ?_ H
 have hf : ∀ n, n < 10 → (ByteArray.mk #[48, 49, 50, 51, 52, 53, 54, 55, 56, 57, 97, 98, 99, 100, 101, 102, 103, 104, 105, 106, 107, 108, 109, 110, 111, 112, 113, 114, 115, 116, 117, 118, 119, 120, 121, 122]).extract n (n + 1) = strOf (digs 1 n) := by decide +kernel
 have hf2 : ∀ n, n < 100 → 10 ≤ n → smalls.extract (n * 2) (n * 2 + 2) = strOf (digs 2 n) := by decide +kernel
 refine callsA_of_ev c98_ ?_
 conv => whnf
 refine Or.inl ?_
 conv => whnf
 refine ⟨fun g => ?_, fun g => ?_⟩
 · have g : n < 10 := lt_t g
   conv => whnf
   rw [nadd, nwrapi (n := n + 1) (by omega)]
   refine ⟨⟨by omega, by omega, ?_⟩, ?_⟩
   · show ((n + 1 : Nat) : Int) ≤ ((36 : Nat) : Int)
     omega
   conv => whnf
   refine Or.inl ⟨?_, rfl⟩
   rw [if_pos g, ← hf n g]
   rfl
 · have g : 10 ≤ n := lt_f g
   conv => whnf
   rw [nmul, nwrapi (n := n * 2) (by omega), nadd, nwrapi (n := n * 2 + 2) (by omega)]
   refine ⟨⟨by omega, by omega, ?_⟩, ?_⟩
   · show ((n * 2 + 2 : Nat) : Int) ≤ ((200 : Nat) : Int)
     omega
   conv => whnf
   refine Or.inl ⟨?_, rfl⟩
   rw [if_neg (by omega), ← hf2 n hn g]
   rfl
end Go.Proofs.YtokkphocaloelaaGreatDoor

end
section
namespace Go.Proofs.YtokkphocaloelaaGreatDoor
open Go Go.Vc
open Go.ChangeShapes Go.WideShapes Go.RowKit

theorem own : ownKnob Tryz.prog.godebug = none := by kernel_rfl
theorem laidOut : laidOutB Tryz.prog = true := by kernel_rfl
theorem gPow : Tryz.prog.globalNamed "internal/strconv.uint64pow10" = some 6 := by kernel_rfl
theorem tPow : (Tryz.prog.globals[6]?).map (·.type) = some 201 := by kernel_rfl
theorem cells64 : Tryz.prog.cellsOf 39 = 1 := by kernel_rfl
theorem powsList : Rows.laid_internal_strconv_uint64pow10 (H := Unit) = .agg ((List.range 20).map fun i => .lit (.int .u64 ((10 ^ i : Nat) : Int))) := by kernel_rfl
theorem pows_of {W : World} {r : List (String × DataW Unit)} (h : laidMet Tryz.prog (("internal/strconv.uint64pow10", Rows.laid_internal_strconv_uint64pow10) :: r) W) : pows W := by
 obtain ⟨ps, ⟨g0, t0, cs0, f0, p0, q0, hg0, ht0, hv0, hd0, _, e0⟩, _, hrows⟩ := h
 obtain rfl := Option.some.inj (gPow.symm.trans hg0)
 obtain rfl := Option.some.inj (tPow.symm.trans ht0)
 rw [powsList] at hd0
 obtain ⟨xs, m, _, hx, hl, hlen, hel⟩ := DataW.trod_array Tryz.underlying201 hd0
 intro i hi
 have h1 := hel i hi
 rw [cells64, Nat.mul_one] at h1
 obtain ⟨x, hxi⟩ : ∃ x, xs[i]? = some x := ⟨_, List.getElem?_eq_getElem (by omega)⟩
 rw [hxi] at h1
 obtain ⟨n, e1, e2, _⟩ := DataW.trod_int Tryz.underlying39 h1
 have e3 : ((List.range 20).map fun i => (DataW.lit (.int .u64 ((10 ^ i : Nat) : Int)) : DataW Unit)) = xs.map (·.1) := by
   have := (Prod.mk.inj hx).1
   exact DataW.agg.inj this
 have e4 : (xs.map (·.1))[i]? = some x.1 := by rw [List.getElem?_map, hxi]; rfl
 rw [← e3, List.getElem?_map, List.getElem?_range hi] at e4
 have e5 : (DataW.lit (.int .u64 ((10 ^ i : Nat) : Int)) : DataW Unit) = x.1 := Option.some.inj e4
 rw [e2] at e5
 have e6 : ((10 ^ i : Nat) : Int) = n := by
   have := DataW.lit.inj e5
   injection this
 have hc := World.var?_cell gPow hv0 i
 show W.cell? ((Addr.mk 6 0 none).add (i * 1)) = _
 have ea : (Addr.mk 6 0 none).add (i * 1) = ⟨6, i, none⟩ := by
   simp only [Addr.add, Nat.mul_one, Nat.zero_add]
   split
   · rename_i c
     simp_all
   · rfl
 rw [ea, hc]
 have e7 : cs0.toList[i]? = some (.int .u64 n) := by
   have h2 : ((cs0.toList.drop i).take 1)[0]? = some (.int .u64 n) := by rw [e1]; rfl
   rw [List.getElem?_take, if_pos (by omega), List.getElem?_drop, Nat.add_zero] at h2
   exact h2
 rw [← Array.getElem?_toList, e7, e6]
theorem cellsStr : Tryz.prog.cellsOf 9 = 1 := by kernel_rfl
theorem cellsES : Tryz.prog.cellsOf 243 = 1 := by kernel_rfl
theorem star : "*" ++ "errors.errorString" = "*errors.errorString" := by decide
theorem rowES (u : TypeId) (h : Tryz.prog.typeName? 3 u = some "*errors.errorString") : u = 227 :=
 typeName_ptr_named (nm := "errors.errorString") (by rw [star]; kernel_rfl) (by kernel_rfl) (by decide) u (by rw [star]; exact h)
structure ErrAt (W : World) (g : Nat) (text : List UInt8) (a : Addr) : Prop where
 var : W.cell? (Addr.mk g 0 none) = some (.iface 227 (.pointer (some a)))
 txt : ∃ s : ByteArray, W.cell? a = some (.string s) ∧ s.data.toList = text
 blk : ∃ c t, W.heap[a.block]? = some (.cells c t (0, 0))
theorem laid_errP {P : Program} {n nm : String} {text : List UInt8} {r : List (String × DataW Unit)} {W : World} {g : Nat} {ti tp te ts : TypeId} {ms : Array (String × TypeId)} {f : Field}
   (h : laidMet P ((n, .iface nm (.ptr (.agg [.lit (.string text)]))) :: r) W)
   (hg : P.globalNamed n = some g) (ht : (P.globals[g]?).map (·.type) = some ti) (hi : P.underlying ti = some (.interface ms)) (hrow : ∀ u, P.typeName? 3 u = some nm → u = tp)
   (hp : P.underlying tp = some (.pointer te)) (he : P.underlying te = some (.struct #[f])) (hft : f.type = ts) (hfo : f.offset = 0) (hs : P.underlying ts = some .string) (hc : P.cellsOf te = 1) (hcs : P.cellsOf ts = 1) :
   ∃ (a : Addr) (s : ByteArray), W.var? P n = some #[.iface tp (.pointer (some a))] ∧ W.cell? a = some (.string s) ∧ s.data.toList = text ∧ ∃ c t, W.heap[a.block]? = some (.cells c t (0, 0)) := by
 obtain ⟨ps, ⟨g0, t0, cs0, f0, p0, q0, hg0, ht0, hv0, hd0, _, e0⟩, _, hrows⟩ := h
 obtain rfl := Option.some.inj (hg.symm.trans hg0)
 obtain rfl := Option.some.inj (ht.symm.trans ht0)
 subst e0
 obtain ⟨l0⟩ := cs0
 have ok0 : ∀ u v, l0 = [.iface u v] → Value.okWide P W .any 0 u v := fun u v e => by
   subst e
   exact (hrows g 0 (by simp [MemPlace.row])).2 u v (by simpa using World.var?_cell hg0 hv0 0)
 obtain ⟨a0, s0, rfl, hc0, hs0, hz0, rfl⟩ := errorString_of_trod hi hrow hp he hft hfo hs hc hcs hd0 ok0
 exact ⟨a0, s0, hv0, hc0, hs0, (hrows a0.block a0.off (by simp [MemPlace.row])).1⟩
theorem laid_err {n : String} {text : List UInt8} {r : List (String × DataW Unit)} {W : World} {g : Nat}
   (h : laidMet Tryz.prog ((n, .iface "*errors.errorString" (.ptr (.agg [.lit (.string text)]))) :: r) W)
   (hg : Tryz.prog.globalNamed n = some g) (ht : (Tryz.prog.globals[g]?).map (·.type) = some 71) : ∃ a, ErrAt W g text a := by
 obtain ⟨a, s, h1, h2, h3, h4⟩ := laid_errP h hg ht Tryz.underlying71 rowES Tryz.underlying227 Tryz.underlying243 rfl rfl Tryz.underlying9 cellsES cellsStr
 exact ⟨a, World.var?_cell hg h1 0, ⟨s, h2, h3⟩, h4⟩
theorem esComp : (Tryz.prog.info? 227).map (·.comparable) = some true := by kernel_rfl
theorem esSize : (Tryz.prog.info? 243).map (·.size) = some 1 := by kernel_rfl
theorem eqES {W : World} {g g' : Nat} {x y : List UInt8} {a b : Addr} (ha : ErrAt W g x a) (hb : ErrAt W g' y b) (hn : x ≠ y) : ieqOf Tryz.prog W 71 (.iface 227 (.pointer (some a))) (.iface 227 (.pointer (some b))) false := by
 intro w hw
 have hne : a ≠ b := by
   rintro rfl
   obtain ⟨s, h1, h2⟩ := ha.txt
   obtain ⟨s', h3, h4⟩ := hb.txt
   rw [h1] at h3
   cases h3
   exact hn (h2.symm.trans h4)
 obtain ⟨c, t, hc⟩ := ha.blk
 obtain ⟨c', t', hc'⟩ := hb.blk
 have l1 : a.block < W.heap.size := (Array.getElem?_eq_some_iff.1 hc).1
 have l2 : b.block < W.heap.size := (Array.getElem?_eq_some_iff.1 hc').1
 obtain ⟨i, hi, hcmp⟩ := Option.map_eq_some_iff.1 esComp
 obtain ⟨j, hj, hsz⟩ := Option.map_eq_some_iff.1 esSize
 have := run_equalIn_iface_ptr_other (P := Tryz.prog) w 9998 Tryz.underlying71 Tryz.underlying227 hi hcmp hj (by rw [hsz]; decide) hne (ca := c) (ta := t) (cb := c') (tb := t') ((hw.block _ l1).trans hc) ((hw.block _ l2).trans hc')
 simpa [Op.equal, Op.maxDepth] using this
theorem sameES {W : World} (a : Addr) : ieqOf Tryz.prog W 71 (.iface 227 (.pointer (some a))) (.iface 227 (.pointer (some a))) true := by
 intro w _
 obtain ⟨i, hi, hcmp⟩ := Option.map_eq_some_iff.1 esComp
 obtain ⟨j, hj, _⟩ := Option.map_eq_some_iff.1 esSize
 have := run_equalIn_iface_ptr_same (P := Tryz.prog) w 9998 a Tryz.underlying71 Tryz.underlying227 hi hcmp hj
 simpa [Op.equal, Op.maxDepth] using this
theorem nilES {W : World} (a : Addr) : ieqOf Tryz.prog W 71 .nilIface (.iface 227 (.pointer (some a))) false := by
 intro w _
 have h : ∀ d : Nat, (Op.equalIn (d + 1) 71 .nilIface (.iface 227 (.pointer (some a)))).run Tryz.prog w = .ok false w := fun d => by simp [Op.equalIn, run_underlying Tryz.underlying71]
 simpa [Op.equal, Op.maxDepth] using h 9999
theorem errs_of {W : World} {a0 a1 a2 a4 a5 a7 a8 a9 a10 a11 : Addr} {x0 x1 x2 x4 x5 x7 x8 x9 x10 x11 : List UInt8} (h0 : ErrAt W 0 x0 a0) (h1 : ErrAt W 1 x1 a1) (h2 : ErrAt W 2 x2 a2) (h4 : ErrAt W 4 x4 a4) (h5 : ErrAt W 5 x5 a5)
   (h7 : ErrAt W 7 x7 a7) (h8 : ErrAt W 8 x8 a8) (h9 : ErrAt W 9 x9 a9) (h10 : ErrAt W 10 x10 a10) (h11 : ErrAt W 11 x11 a11) (hx : ∀ x ∈ [x1, x2, x4, x5, x7, x8, x9, x10, x11], x ≠ x0) : ∃ v, Errs W 227 v := by
 refine ⟨fun k => .pointer (some (match k with | 0 => a0 | 1 => a1 | 2 => a2 | 4 => a4 | 5 => a5 | 7 => a7 | 8 => a8 | 9 => a9 | 10 => a10 | _ => a11)), fun k hk h3 h6 => ?_, fun k hk h3 h6 => ?_, nilES a0⟩
 · have : k = 0 ∨ k = 1 ∨ k = 2 ∨ k = 4 ∨ k = 5 ∨ k = 7 ∨ k = 8 ∨ k = 9 ∨ k = 10 ∨ k = 11 := by omega
   rcases this with rfl | rfl | rfl | rfl | rfl | rfl | rfl | rfl | rfl | rfl
   · exact h0.var
   · exact h1.var
   · exact h2.var
   · exact h4.var
   · exact h5.var
   · exact h7.var
   · exact h8.var
   · exact h9.var
   · exact h10.var
   · exact h11.var
 · have : k = 0 ∨ k = 1 ∨ k = 2 ∨ k = 4 ∨ k = 5 ∨ k = 7 ∨ k = 8 ∨ k = 9 ∨ k = 10 ∨ k = 11 := by omega
   rcases this with rfl | rfl | rfl | rfl | rfl | rfl | rfl | rfl | rfl | rfl
   · exact sameES a0
   · exact eqES h1 h0 (hx _ (by simp))
   · exact eqES h2 h0 (hx _ (by simp))
   · exact eqES h4 h0 (hx _ (by simp))
   · exact eqES h5 h0 (hx _ (by simp))
   · exact eqES h7 h0 (hx _ (by simp))
   · exact eqES h8 h0 (hx _ (by simp))
   · exact eqES h9 h0 (hx _ (by simp))
   · exact eqES h10 h0 (hx _ (by simp))
   · exact eqES h11 h0 (hx _ (by simp))
theorem g0 : Tryz.prog.globalNamed "io.EOF" = some 0 := by kernel_rfl
theorem g1 : Tryz.prog.globalNamed "io.ErrUnexpectedEOF" = some 1 := by kernel_rfl
theorem g2 : Tryz.prog.globalNamed "pub-carronade/pub/opus/pkg/oggreader.errShortPageHeader" = some 2 := by kernel_rfl
theorem g4 : Tryz.prog.globalNamed "pub-carronade/pub/opus/pkg/oggreader.errNilStream" = some 4 := by kernel_rfl
theorem g5 : Tryz.prog.globalNamed "pub-carronade/pub/opus/pkg/oggreader.errChecksumMismatch" = some 5 := by kernel_rfl
theorem g7 : Tryz.prog.globalNamed "io.ErrShortBuffer" = some 7 := by kernel_rfl
theorem g8 : Tryz.prog.globalNamed "pub-carronade/pub/opus/pkg/oggreader.errBadIDPageSignature" = some 8 := by kernel_rfl
theorem g9 : Tryz.prog.globalNamed "pub-carronade/pub/opus/pkg/oggreader.errBadIDPageType" = some 9 := by kernel_rfl
theorem g10 : Tryz.prog.globalNamed "pub-carronade/pub/opus/pkg/oggreader.errBadIDPageLength" = some 10 := by kernel_rfl
theorem g11 : Tryz.prog.globalNamed "pub-carronade/pub/opus/pkg/oggreader.errBadIDPagePayloadSignature" = some 11 := by kernel_rfl
theorem tg : ∀ k ∈ [0, 1, 2, 4, 5, 7, 8, 9, 10, 11], (Tryz.prog.globals[k]?).map (·.type) = some 71 := by
 intro k hk
 simp only [List.mem_cons, List.not_mem_nil, or_false] at hk
 rcases hk with rfl | rfl | rfl | rfl | rfl | rfl | rfl | rfl | rfl | rfl <;> kernel_rfl
def laidErrs (r : List (String × DataW Unit)) : List (String × DataW Unit) := ("io.ErrShortBuffer", Rows.laid_io_ErrShortBuffer) :: ("io.EOF", Rows.laid_io_EOF) :: ("io.ErrUnexpectedEOF", Rows.laid_io_ErrUnexpectedEOF) :: ("pub-carronade/pub/opus/pkg/oggreader.errNilStream", Rows.laid_pub_carronade_pub_opus_pkg_oggreader_errNilStream) :: ("pub-carronade/pub/opus/pkg/oggreader.errBadIDPageSignature", Rows.laid_pub_carronade_pub_opus_pkg_oggreader_errBadIDPageSignature) :: ("pub-carronade/pub/opus/pkg/oggreader.errBadIDPageType", Rows.laid_pub_carronade_pub_opus_pkg_oggreader_errBadIDPageType) :: ("pub-carronade/pub/opus/pkg/oggreader.errBadIDPageLength", Rows.laid_pub_carronade_pub_opus_pkg_oggreader_errBadIDPageLength) :: ("pub-carronade/pub/opus/pkg/oggreader.errBadIDPagePayloadSignature", Rows.laid_pub_carronade_pub_opus_pkg_oggreader_errBadIDPagePayloadSignature) :: ("pub-carronade/pub/opus/pkg/oggreader.errShortPageHeader", Rows.laid_pub_carronade_pub_opus_pkg_oggreader_errShortPageHeader) :: ("pub-carronade/pub/opus/pkg/oggreader.errChecksumMismatch", Rows.laid_pub_carronade_pub_opus_pkg_oggreader_errChecksumMismatch) :: r
theorem errs_of_laid {W : World} {r : List (String × DataW Unit)} (h : laidMet Tryz.prog (laidErrs r) W) : ∃ v, Errs W 227 v := by
 obtain ⟨a7, e7⟩ := laid_err h g7 (tg 7 (by simp))
 have h := h.tail
 obtain ⟨a0, e0⟩ := laid_err h g0 (tg 0 (by simp))
 have h := h.tail
 obtain ⟨a1, e1⟩ := laid_err h g1 (tg 1 (by simp))
 have h := h.tail
 obtain ⟨a4, e4⟩ := laid_err h g4 (tg 4 (by simp))
 have h := h.tail
 obtain ⟨a8, e8⟩ := laid_err h g8 (tg 8 (by simp))
 have h := h.tail
 obtain ⟨a9, e9⟩ := laid_err h g9 (tg 9 (by simp))
 have h := h.tail
 obtain ⟨a10, e10⟩ := laid_err h g10 (tg 10 (by simp))
 have h := h.tail
 obtain ⟨a11, e11⟩ := laid_err h g11 (tg 11 (by simp))
 have h := h.tail
 obtain ⟨a2, e2⟩ := laid_err h g2 (tg 2 (by simp))
 have h := h.tail
 obtain ⟨a5, e5⟩ := laid_err h g5 (tg 5 (by simp))
 exact errs_of e0 e1 e2 e4 e5 e7 e8 e9 e10 e11 (by decide)
end Go.Proofs.YtokkphocaloelaaGreatDoor

end
section
namespace Go.Proofs.YtokkphocaloelaaGreatDoor
open Go Go.Vc
set_option maxRecDepth 100000
set_option maxHeartbeats 8000000

def arrB (T : TypeId) (xs : List Int) : Blk := .vec true T (encI .u8) [] 1 xs
theorem digs_at {n u m p : Nat} (hp : p < m) (hm : m ≤ n) : (digs n u)[m - 1 - p]? = some ((48 + u / 10 ^ (n - m) / 10 ^ p % 10 : Nat) : Int) := by
 rw [digs_get (by omega), Nat.div_div_eq_div_mul, ← Nat.pow_add, show n - 1 - (m - 1 - p) = n - m + p by omega]
theorem part_step {xs : List Int} {n u o m p : Nat} {y : Int} (h : o + n ≤ xs.length) (hm : m + p + 1 ≤ n) (hy : y = ((48 + u / 10 ^ (n - (m + p + 1)) / 10 ^ p % 10 : Nat) : Int)) : (part xs (digs n u) o (m + 1)).set (o + m) y = part xs (digs n u) o m := by
 have hl := digs_len n u
 refine part_set (by omega) (by omega) ?_
 have := digs_at (n := n) (u := u) (m := m + p + 1) (p := p) (by omega) hm
 rw [show m + p + 1 - 1 - p = m by omega] at this
 rw [this, hy]
theorem pow_next {u n m j : Nat} (hj : j ≤ m) (hm : m ≤ n) : u / 10 ^ (n - m) / 10 ^ j = u / 10 ^ (n - (m - j)) := by
 rw [Nat.div_div_eq_div_mul, ← Nat.pow_add, show n - m + j = n - (m - j) by omega]
theorem last_small {u n m : Nat} (h : u < 10 ^ n) (hm : m ≤ n) : u / 10 ^ (n - m) < 10 ^ m := by
 refine (Nat.div_lt_iff_lt_mul (Nat.pow_pos (by omega))).2 ?_
 rw [← Nat.pow_add, show m + (n - m) = n by omega]
 exact h
theorem base10W (w0 : World) {T : TypeId} {xs : List Int} {o n c u : Nat} (hlen : o + n ≤ xs.length) (hn : n ≤ 20) (hu : u < 18446744073709551616) (hun : u < 10 ^ n) :
   CallsA Tryz.prog w0 100 [.c (.sli 0 1 o n c), .c (.val (.int .u64 u))] [arrB T xs] fun r H => r = .t [] ∧ H = [arrB T (part xs (digs n u) o 0)] := by
 have hdl := digs_len n u
 refine callsA_of_ev c100_ ?_
 conv => whnf
 refine Or.inl ?_
 conv => whnf
 refine ⟨{m : Nat // m ≤ n}, fun ⟨m, _⟩ => ⟨[(0, .o (.c (.sli 0 1 o n c))), (1, .o (.c (.val (.int .u64 (u / 10 ^ (n - m) : Nat))))), (4, .o (.c (.val (.int .i64 m))))], [arrB T (part xs (digs n u) o m)]⟩, fun m => m.1,
   ⟨⟨n, Nat.le_refl _⟩, [0], ⟨rfl, ⟨?_, rfl, trivial⟩, rfl⟩, rfl, eq_u64 (by rw [Nat.sub_self, Nat.pow_zero, Nat.div_one]), rfl, trivial⟩, fun ⟨m, hm⟩ => ?_⟩
 · have := part_all xs (digs n u) o
   rw [hdl] at this
   rw [this]
   rfl
 obtain ⟨v, hv⟩ : ∃ v, v = u / 10 ^ (n - m) := ⟨_, rfl⟩
 have hvu : v ≤ u := by rw [hv]; exact Nat.div_le_self _ _
 have hvm : v < 10 ^ m := by rw [hv]; exact last_small hun hm
 conv => whnf
 rw [← hv]
 refine ⟨fun g => ?_, fun g => ?_⟩
 · have g : 8 ≤ m := ge_t g
   conv => whnf
   rw [ntmod v 100000000, nwrap32 (n := v % 100000000) (by omega)]
   obtain ⟨x, hx⟩ : ∃ x, x = v % 100000000 := ⟨_, rfl⟩
   rw [← hx]
   rw [ntdiv v 100000000, nwrap64 (n := v / 100000000) (by omega), ntdiv x 10000, nwrap32 (n := x / 10000) (by omega), ntmod x 10000]
   obtain ⟨y1, hy1⟩ : ∃ y, y = x / 10000 := ⟨_, rfl⟩
   obtain ⟨y0, hy0⟩ : ∃ y, y = x % 10000 := ⟨_, rfl⟩
   rw [← hy1, ← hy0]
   rw [ntdiv y0 100, nwrap32 (n := y0 / 100) (by omega), nmul (y0 / 100) 2, nwrap32 (n := y0 / 100 * 2) (by omega), ntmod y0 100, nmul (y0 % 100) 2, nwrap32 (n := y0 % 100 * 2) (by omega), ntdiv y1 100, nwrap32 (n := y1 / 100) (by omega), nmul (y1 / 100) 2, nwrap32 (n := y1 / 100 * 2) (by omega), ntmod y1 100, nmul (y1 % 100) 2, nwrap32 (n := y1 % 100 * 2) (by omega)]
   obtain ⟨k0, hk0⟩ : ∃ y, y = y0 % 100 := ⟨_, rfl⟩
   obtain ⟨k1, hk1⟩ : ∃ y, y = y0 / 100 := ⟨_, rfl⟩
   obtain ⟨k2, hk2⟩ : ∃ y, y = y1 % 100 := ⟨_, rfl⟩
   obtain ⟨k3, hk3⟩ : ∃ y, y = y1 / 100 := ⟨_, rfl⟩
   rw [← hk0, ← hk1, ← hk2, ← hk3]
   conv => whnf
   rw [nadd (k0 * 2) 1, nwrap32 (n := k0 * 2 + 1) (by omega)]
   refine ⟨_, si_lo (k := k0) (by omega), ?_⟩
   conv => whnf
   refine ⟨_, si_hi (k := k0) (by omega), ?_⟩
   conv => whnf
   rw [nsub (a := m) (b := 1) (by omega), nwrapi (n := m - 1) (by omega)]
   refine ⟨by omega, ?_⟩
   conv => whnf
   obtain ⟨z1, hz1⟩ := part_get (xs := xs) (D := digs n u) (o := o) (m := m - 0) (j := m - 1) (by omega) (by omega) (by omega)
   refine ⟨z1, ((48 + k0 % 10 : Nat) : Int), hz1, ?_, ?_⟩
   · show [CV.val (.int .u8 ((48 + k0 % 10 : Nat) : Int))] = [CV.val (.int .u8 (((UInt8.ofNat (48 + k0 % 10)).toNat : Nat) : Int))]
     rw [u8_nat (by omega)]
   conv => whnf
   refine ⟨trivial, ?_⟩
   have e1 : (part xs (digs n u) o m).set (o + ((m - 1 : Nat) : Int).toNat) ((48 + k0 % 10 : Nat) : Int) = part xs (digs n u) o (m - 1) := by
     rw [Int.toNat_natCast]
     have := part_step (xs := xs) (n := n) (u := u) (o := o) (m := m - 1) (p := 0) (y := ((48 + k0 % 10 : Nat) : Int)) hlen (by omega) ?_
     · rw [show m - 1 + 1 = m by omega] at this
       exact this
     · rw [show m - 1 + 0 + 1 = m by omega, ← hv]
       omega
   rw [e1]
   conv => whnf
   rw [nsub (a := m) (b := 2) (by omega), nwrapi (n := m - 2) (by omega)]
   refine ⟨by omega, ?_⟩
   conv => whnf
   obtain ⟨z2, hz2⟩ := part_get (xs := xs) (D := digs n u) (o := o) (m := m - 1) (j := m - 2) (by omega) (by omega) (by omega)
   refine ⟨z2, ((48 + k0 / 10 : Nat) : Int), hz2, ?_, ?_⟩
   · show [CV.val (.int .u8 ((48 + k0 / 10 : Nat) : Int))] = [CV.val (.int .u8 (((UInt8.ofNat (48 + k0 / 10)).toNat : Nat) : Int))]
     rw [u8_nat (by omega)]
   conv => whnf
   refine ⟨trivial, ?_⟩
   have e2 : (part xs (digs n u) o (m - 1)).set (o + ((m - 2 : Nat) : Int).toNat) ((48 + k0 / 10 : Nat) : Int) = part xs (digs n u) o (m - 2) := by
     rw [Int.toNat_natCast]
     have := part_step (xs := xs) (n := n) (u := u) (o := o) (m := m - 2) (p := 1) (y := ((48 + k0 / 10 : Nat) : Int)) hlen (by omega) ?_
     · rw [show m - 2 + 1 = m - 1 by omega] at this
       exact this
     · rw [show m - 2 + 1 + 1 = m by omega, ← hv]
       omega
   rw [e2]
   conv => whnf
   rw [nadd (k1 * 2) 1, nwrap32 (n := k1 * 2 + 1) (by omega)]
   refine ⟨_, si_lo (k := k1) (by omega), ?_⟩
   conv => whnf
   refine ⟨_, si_hi (k := k1) (by omega), ?_⟩
   conv => whnf
   rw [nsub (a := m) (b := 3) (by omega), nwrapi (n := m - 3) (by omega)]
   refine ⟨by omega, ?_⟩
   conv => whnf
   obtain ⟨z3, hz3⟩ := part_get (xs := xs) (D := digs n u) (o := o) (m := m - 2) (j := m - 3) (by omega) (by omega) (by omega)
   refine ⟨z3, ((48 + k1 % 10 : Nat) : Int), hz3, ?_, ?_⟩
   · show [CV.val (.int .u8 ((48 + k1 % 10 : Nat) : Int))] = [CV.val (.int .u8 (((UInt8.ofNat (48 + k1 % 10)).toNat : Nat) : Int))]
     rw [u8_nat (by omega)]
   conv => whnf
   refine ⟨trivial, ?_⟩
   have e3 : (part xs (digs n u) o (m - 2)).set (o + ((m - 3 : Nat) : Int).toNat) ((48 + k1 % 10 : Nat) : Int) = part xs (digs n u) o (m - 3) := by
     rw [Int.toNat_natCast]
     have := part_step (xs := xs) (n := n) (u := u) (o := o) (m := m - 3) (p := 2) (y := ((48 + k1 % 10 : Nat) : Int)) hlen (by omega) ?_
     · rw [show m - 3 + 1 = m - 2 by omega] at this
       exact this
     · rw [show m - 3 + 2 + 1 = m by omega, ← hv]
       omega
   rw [e3]
   conv => whnf
   rw [nsub (a := m) (b := 4) (by omega), nwrapi (n := m - 4) (by omega)]
   refine ⟨by omega, ?_⟩
   conv => whnf
   obtain ⟨z4, hz4⟩ := part_get (xs := xs) (D := digs n u) (o := o) (m := m - 3) (j := m - 4) (by omega) (by omega) (by omega)
   refine ⟨z4, ((48 + k1 / 10 : Nat) : Int), hz4, ?_, ?_⟩
   · show [CV.val (.int .u8 ((48 + k1 / 10 : Nat) : Int))] = [CV.val (.int .u8 (((UInt8.ofNat (48 + k1 / 10)).toNat : Nat) : Int))]
     rw [u8_nat (by omega)]
   conv => whnf
   refine ⟨trivial, ?_⟩
   have e4 : (part xs (digs n u) o (m - 3)).set (o + ((m - 4 : Nat) : Int).toNat) ((48 + k1 / 10 : Nat) : Int) = part xs (digs n u) o (m - 4) := by
     rw [Int.toNat_natCast]
     have := part_step (xs := xs) (n := n) (u := u) (o := o) (m := m - 4) (p := 3) (y := ((48 + k1 / 10 : Nat) : Int)) hlen (by omega) ?_
     · rw [show m - 4 + 1 = m - 3 by omega] at this
       exact this
     · rw [show m - 4 + 3 + 1 = m by omega, ← hv]
       omega
   rw [e4]
   conv => whnf
   rw [nadd (k2 * 2) 1, nwrap32 (n := k2 * 2 + 1) (by omega)]
   refine ⟨_, si_lo (k := k2) (by omega), ?_⟩
   conv => whnf
   refine ⟨_, si_hi (k := k2) (by omega), ?_⟩
   conv => whnf
   rw [nsub (a := m) (b := 5) (by omega), nwrapi (n := m - 5) (by omega)]
   refine ⟨by omega, ?_⟩
   conv => whnf
   obtain ⟨z5, hz5⟩ := part_get (xs := xs) (D := digs n u) (o := o) (m := m - 4) (j := m - 5) (by omega) (by omega) (by omega)
   refine ⟨z5, ((48 + k2 % 10 : Nat) : Int), hz5, ?_, ?_⟩
   · show [CV.val (.int .u8 ((48 + k2 % 10 : Nat) : Int))] = [CV.val (.int .u8 (((UInt8.ofNat (48 + k2 % 10)).toNat : Nat) : Int))]
     rw [u8_nat (by omega)]
   conv => whnf
   refine ⟨trivial, ?_⟩
   have e5 : (part xs (digs n u) o (m - 4)).set (o + ((m - 5 : Nat) : Int).toNat) ((48 + k2 % 10 : Nat) : Int) = part xs (digs n u) o (m - 5) := by
     rw [Int.toNat_natCast]
     have := part_step (xs := xs) (n := n) (u := u) (o := o) (m := m - 5) (p := 4) (y := ((48 + k2 % 10 : Nat) : Int)) hlen (by omega) ?_
     · rw [show m - 5 + 1 = m - 4 by omega] at this
       exact this
     · rw [show m - 5 + 4 + 1 = m by omega, ← hv]
       omega
   rw [e5]
   conv => whnf
   rw [nsub (a := m) (b := 6) (by omega), nwrapi (n := m - 6) (by omega)]
   refine ⟨by omega, ?_⟩
   conv => whnf
   obtain ⟨z6, hz6⟩ := part_get (xs := xs) (D := digs n u) (o := o) (m := m - 5) (j := m - 6) (by omega) (by omega) (by omega)
   refine ⟨z6, ((48 + k2 / 10 : Nat) : Int), hz6, ?_, ?_⟩
   · show [CV.val (.int .u8 ((48 + k2 / 10 : Nat) : Int))] = [CV.val (.int .u8 (((UInt8.ofNat (48 + k2 / 10)).toNat : Nat) : Int))]
     rw [u8_nat (by omega)]
   conv => whnf
   refine ⟨trivial, ?_⟩
   have e6 : (part xs (digs n u) o (m - 5)).set (o + ((m - 6 : Nat) : Int).toNat) ((48 + k2 / 10 : Nat) : Int) = part xs (digs n u) o (m - 6) := by
     rw [Int.toNat_natCast]
     have := part_step (xs := xs) (n := n) (u := u) (o := o) (m := m - 6) (p := 5) (y := ((48 + k2 / 10 : Nat) : Int)) hlen (by omega) ?_
     · rw [show m - 6 + 1 = m - 5 by omega] at this
       exact this
     · rw [show m - 6 + 5 + 1 = m by omega, ← hv]
       omega
   rw [e6]
   conv => whnf
   rw [nadd (k3 * 2) 1, nwrap32 (n := k3 * 2 + 1) (by omega)]
   refine ⟨_, si_lo (k := k3) (by omega), ?_⟩
   conv => whnf
   refine ⟨_, si_hi (k := k3) (by omega), ?_⟩
   conv => whnf
   rw [nsub (a := m) (b := 7) (by omega), nwrapi (n := m - 7) (by omega)]
   refine ⟨by omega, ?_⟩
   conv => whnf
   obtain ⟨z7, hz7⟩ := part_get (xs := xs) (D := digs n u) (o := o) (m := m - 6) (j := m - 7) (by omega) (by omega) (by omega)
   refine ⟨z7, ((48 + k3 % 10 : Nat) : Int), hz7, ?_, ?_⟩
   · show [CV.val (.int .u8 ((48 + k3 % 10 : Nat) : Int))] = [CV.val (.int .u8 (((UInt8.ofNat (48 + k3 % 10)).toNat : Nat) : Int))]
     rw [u8_nat (by omega)]
   conv => whnf
   refine ⟨trivial, ?_⟩
   have e7 : (part xs (digs n u) o (m - 6)).set (o + ((m - 7 : Nat) : Int).toNat) ((48 + k3 % 10 : Nat) : Int) = part xs (digs n u) o (m - 7) := by
     rw [Int.toNat_natCast]
     have := part_step (xs := xs) (n := n) (u := u) (o := o) (m := m - 7) (p := 6) (y := ((48 + k3 % 10 : Nat) : Int)) hlen (by omega) ?_
     · rw [show m - 7 + 1 = m - 6 by omega] at this
       exact this
     · rw [show m - 7 + 6 + 1 = m by omega, ← hv]
       omega
   rw [e7]
   conv => whnf
   rw [nsub (a := m) (b := 8) (by omega), nwrapi (n := m - 8) (by omega)]
   refine ⟨by omega, ?_⟩
   conv => whnf
   obtain ⟨z8, hz8⟩ := part_get (xs := xs) (D := digs n u) (o := o) (m := m - 7) (j := m - 8) (by omega) (by omega) (by omega)
   refine ⟨z8, ((48 + k3 / 10 : Nat) : Int), hz8, ?_, ?_⟩
   · show [CV.val (.int .u8 ((48 + k3 / 10 : Nat) : Int))] = [CV.val (.int .u8 (((UInt8.ofNat (48 + k3 / 10)).toNat : Nat) : Int))]
     rw [u8_nat (by omega)]
   conv => whnf
   refine ⟨trivial, ?_⟩
   have e8 : (part xs (digs n u) o (m - 7)).set (o + ((m - 8 : Nat) : Int).toNat) ((48 + k3 / 10 : Nat) : Int) = part xs (digs n u) o (m - 8) := by
     rw [Int.toNat_natCast]
     have := part_step (xs := xs) (n := n) (u := u) (o := o) (m := m - 8) (p := 7) (y := ((48 + k3 / 10 : Nat) : Int)) hlen (by omega) ?_
     · rw [show m - 8 + 1 = m - 7 by omega] at this
       exact this
     · rw [show m - 8 + 7 + 1 = m by omega, ← hv]
       omega
   rw [e8]
   conv => whnf
   refine ⟨⟨m - 8, by omega⟩, ⟨[0], ⟨rfl, ⟨rfl, rfl, trivial⟩, rfl⟩, rfl, eq_u64 ?_, eq_i64 ?_, trivial⟩, ?_⟩
   · rw [← pow_next (by omega) hm, ← hv]
   · rw [nsub (by omega), nwrapi (by omega)]
   · show m - 8 < m
     omega
 · have g : m < 8 := ge_f g
   conv => whnf
   have hv8 : v < 100000000 := Nat.lt_of_lt_of_le hvm (Nat.pow_le_pow_right (by omega) (show m ≤ 8 by omega))
   rw [nwrap32 (n := v) (by omega)]
   refine Or.inr ⟨{q : Nat // q ≤ n ∧ q < 4}, fun ⟨q, _⟩ => ⟨[(0, .o (.c (.sli 0 1 o n c))), (4, .o (.c (.val (.int .i64 q)))), (12, .o (.c (.val (.int .u32 (u / 10 ^ (n - q) : Nat)))))], [arrB T (part xs (digs n u) o q)]⟩, ?_, ?_⟩
   · conv => whnf
     refine ⟨fun g4 => ?_, fun g4 => ?_⟩
     · have g4 : 4 ≤ m := ge_t g4
       conv => whnf
       rw [ntmod v 10000, ntdiv v 10000, nwrap32 (n := v / 10000) (by omega)]
       obtain ⟨y0, hy0⟩ : ∃ y, y = v % 10000 := ⟨_, rfl⟩
       rw [← hy0]
       rw [ntdiv y0 100, nwrap32 (n := y0 / 100) (by omega), nmul (y0 / 100) 2, nwrap32 (n := y0 / 100 * 2) (by omega), ntmod y0 100, nmul (y0 % 100) 2, nwrap32 (n := y0 % 100 * 2) (by omega)]
       obtain ⟨k0, hk0⟩ : ∃ y, y = y0 % 100 := ⟨_, rfl⟩
       obtain ⟨k1, hk1⟩ : ∃ y, y = y0 / 100 := ⟨_, rfl⟩
       rw [← hk0, ← hk1]
       conv => whnf
       rw [nadd (k0 * 2) 1, nwrap32 (n := k0 * 2 + 1) (by omega)]
       refine ⟨_, si_lo (k := k0) (by omega), ?_⟩
       conv => whnf
       refine ⟨_, si_hi (k := k0) (by omega), ?_⟩
       conv => whnf
       rw [nsub (a := m) (b := 1) (by omega), nwrapi (n := m - 1) (by omega)]
       refine ⟨by omega, ?_⟩
       conv => whnf
       obtain ⟨z1, hz1⟩ := part_get (xs := xs) (D := digs n u) (o := o) (m := m - 0) (j := m - 1) (by omega) (by omega) (by omega)
       refine ⟨z1, ((48 + k0 % 10 : Nat) : Int), hz1, ?_, ?_⟩
       · show [CV.val (.int .u8 ((48 + k0 % 10 : Nat) : Int))] = [CV.val (.int .u8 (((UInt8.ofNat (48 + k0 % 10)).toNat : Nat) : Int))]
         rw [u8_nat (by omega)]
       conv => whnf
       refine ⟨trivial, ?_⟩
       have e1 : (part xs (digs n u) o m).set (o + ((m - 1 : Nat) : Int).toNat) ((48 + k0 % 10 : Nat) : Int) = part xs (digs n u) o (m - 1) := by
         rw [Int.toNat_natCast]
         have := part_step (xs := xs) (n := n) (u := u) (o := o) (m := m - 1) (p := 0) (y := ((48 + k0 % 10 : Nat) : Int)) hlen (by omega) ?_
         · rw [show m - 1 + 1 = m by omega] at this
           exact this
         · rw [show m - 1 + 0 + 1 = m by omega, ← hv]
           omega
       rw [e1]
       conv => whnf
       rw [nsub (a := m) (b := 2) (by omega), nwrapi (n := m - 2) (by omega)]
       refine ⟨by omega, ?_⟩
       conv => whnf
       obtain ⟨z2, hz2⟩ := part_get (xs := xs) (D := digs n u) (o := o) (m := m - 1) (j := m - 2) (by omega) (by omega) (by omega)
       refine ⟨z2, ((48 + k0 / 10 : Nat) : Int), hz2, ?_, ?_⟩
       · show [CV.val (.int .u8 ((48 + k0 / 10 : Nat) : Int))] = [CV.val (.int .u8 (((UInt8.ofNat (48 + k0 / 10)).toNat : Nat) : Int))]
         rw [u8_nat (by omega)]
       conv => whnf
       refine ⟨trivial, ?_⟩
       have e2 : (part xs (digs n u) o (m - 1)).set (o + ((m - 2 : Nat) : Int).toNat) ((48 + k0 / 10 : Nat) : Int) = part xs (digs n u) o (m - 2) := by
         rw [Int.toNat_natCast]
         have := part_step (xs := xs) (n := n) (u := u) (o := o) (m := m - 2) (p := 1) (y := ((48 + k0 / 10 : Nat) : Int)) hlen (by omega) ?_
         · rw [show m - 2 + 1 = m - 1 by omega] at this
           exact this
         · rw [show m - 2 + 1 + 1 = m by omega, ← hv]
           omega
       rw [e2]
       conv => whnf
       rw [nadd (k1 * 2) 1, nwrap32 (n := k1 * 2 + 1) (by omega)]
       refine ⟨_, si_lo (k := k1) (by omega), ?_⟩
       conv => whnf
       refine ⟨_, si_hi (k := k1) (by omega), ?_⟩
       conv => whnf
       rw [nsub (a := m) (b := 3) (by omega), nwrapi (n := m - 3) (by omega)]
       refine ⟨by omega, ?_⟩
       conv => whnf
       obtain ⟨z3, hz3⟩ := part_get (xs := xs) (D := digs n u) (o := o) (m := m - 2) (j := m - 3) (by omega) (by omega) (by omega)
       refine ⟨z3, ((48 + k1 % 10 : Nat) : Int), hz3, ?_, ?_⟩
       · show [CV.val (.int .u8 ((48 + k1 % 10 : Nat) : Int))] = [CV.val (.int .u8 (((UInt8.ofNat (48 + k1 % 10)).toNat : Nat) : Int))]
         rw [u8_nat (by omega)]
       conv => whnf
       refine ⟨trivial, ?_⟩
       have e3 : (part xs (digs n u) o (m - 2)).set (o + ((m - 3 : Nat) : Int).toNat) ((48 + k1 % 10 : Nat) : Int) = part xs (digs n u) o (m - 3) := by
         rw [Int.toNat_natCast]
         have := part_step (xs := xs) (n := n) (u := u) (o := o) (m := m - 3) (p := 2) (y := ((48 + k1 % 10 : Nat) : Int)) hlen (by omega) ?_
         · rw [show m - 3 + 1 = m - 2 by omega] at this
           exact this
         · rw [show m - 3 + 2 + 1 = m by omega, ← hv]
           omega
       rw [e3]
       conv => whnf
       rw [nsub (a := m) (b := 4) (by omega), nwrapi (n := m - 4) (by omega)]
       refine ⟨by omega, ?_⟩
       conv => whnf
       obtain ⟨z4, hz4⟩ := part_get (xs := xs) (D := digs n u) (o := o) (m := m - 3) (j := m - 4) (by omega) (by omega) (by omega)
       refine ⟨z4, ((48 + k1 / 10 : Nat) : Int), hz4, ?_, ?_⟩
       · show [CV.val (.int .u8 ((48 + k1 / 10 : Nat) : Int))] = [CV.val (.int .u8 (((UInt8.ofNat (48 + k1 / 10)).toNat : Nat) : Int))]
         rw [u8_nat (by omega)]
       conv => whnf
       refine ⟨trivial, ?_⟩
       have e4 : (part xs (digs n u) o (m - 3)).set (o + ((m - 4 : Nat) : Int).toNat) ((48 + k1 / 10 : Nat) : Int) = part xs (digs n u) o (m - 4) := by
         rw [Int.toNat_natCast]
         have := part_step (xs := xs) (n := n) (u := u) (o := o) (m := m - 4) (p := 3) (y := ((48 + k1 / 10 : Nat) : Int)) hlen (by omega) ?_
         · rw [show m - 4 + 1 = m - 3 by omega] at this
           exact this
         · rw [show m - 4 + 3 + 1 = m by omega, ← hv]
           omega
       rw [e4]
       conv => whnf
       refine ⟨⟨m - 4, by omega, by omega⟩, ⟨[0], ⟨rfl, ⟨rfl, rfl, trivial⟩, rfl⟩, rfl, eq_i64 ?_, eq_u32 ?_, trivial⟩⟩
       · rw [nsub (by omega), nwrapi (by omega)]
       · rw [← pow_next (by omega) hm, ← hv]
     · have g4 : m < 4 := ge_f g4
       conv => whnf
       exact ⟨⟨m, hm, g4⟩, ⟨[0], ⟨rfl, ⟨rfl, rfl, trivial⟩, rfl⟩, rfl, rfl, eq_u32 (by rw [hv]), trivial⟩⟩
   clear hv8 hvm hvu hv v
   rintro ⟨m, hm, hm4⟩
   obtain ⟨v, hv⟩ : ∃ v, v = u / 10 ^ (n - m) := ⟨_, rfl⟩
   have hvm : v < 10 ^ m := by rw [hv]; exact last_small hun hm
   have hv8 : v < 10000 := Nat.lt_of_lt_of_le hvm (Nat.pow_le_pow_right (by omega) (show m ≤ 4 by omega))
   conv => whnf
   refine Or.inr ⟨{q : Nat // q ≤ n ∧ q < 2}, fun ⟨q, _⟩ => ⟨[(0, .o (.c (.sli 0 1 o n c))), (4, .o (.c (.val (.int .i64 q)))), (12, .o (.c (.val (.int .u32 (u / 10 ^ (n - q) : Nat)))))], [arrB T (part xs (digs n u) o q)]⟩, ?_, ?_⟩
   · conv => whnf
     rw [← hv]
     refine ⟨fun g4 => ?_, fun g4 => ?_⟩
     · have g4 : 2 ≤ m := ge_t g4
       conv => whnf
       rw [ntmod v 100, ntdiv v 100, nwrap32 (n := v / 100) (by omega), nmul (v % 100) 2, nwrap32 (n := v % 100 * 2) (by omega)]
       obtain ⟨k0, hk0⟩ : ∃ y, y = v % 100 := ⟨_, rfl⟩
       rw [← hk0]
       conv => whnf
       rw [nadd (k0 * 2) 1, nwrap32 (n := k0 * 2 + 1) (by omega)]
       refine ⟨_, si_lo (k := k0) (by omega), ?_⟩
       conv => whnf
       refine ⟨_, si_hi (k := k0) (by omega), ?_⟩
       conv => whnf
       rw [nsub (a := m) (b := 1) (by omega), nwrapi (n := m - 1) (by omega)]
       refine ⟨by omega, ?_⟩
       conv => whnf
       obtain ⟨z1, hz1⟩ := part_get (xs := xs) (D := digs n u) (o := o) (m := m - 0) (j := m - 1) (by omega) (by omega) (by omega)
       refine ⟨z1, ((48 + k0 % 10 : Nat) : Int), hz1, ?_, ?_⟩
       · show [CV.val (.int .u8 ((48 + k0 % 10 : Nat) : Int))] = [CV.val (.int .u8 (((UInt8.ofNat (48 + k0 % 10)).toNat : Nat) : Int))]
         rw [u8_nat (by omega)]
       conv => whnf
       refine ⟨trivial, ?_⟩
       have e1 : (part xs (digs n u) o m).set (o + ((m - 1 : Nat) : Int).toNat) ((48 + k0 % 10 : Nat) : Int) = part xs (digs n u) o (m - 1) := by
         rw [Int.toNat_natCast]
         have := part_step (xs := xs) (n := n) (u := u) (o := o) (m := m - 1) (p := 0) (y := ((48 + k0 % 10 : Nat) : Int)) hlen (by omega) ?_
         · rw [show m - 1 + 1 = m by omega] at this
           exact this
         · rw [show m - 1 + 0 + 1 = m by omega, ← hv]
           omega
       rw [e1]
       conv => whnf
       rw [nsub (a := m) (b := 2) (by omega), nwrapi (n := m - 2) (by omega)]
       refine ⟨by omega, ?_⟩
       conv => whnf
       obtain ⟨z2, hz2⟩ := part_get (xs := xs) (D := digs n u) (o := o) (m := m - 1) (j := m - 2) (by omega) (by omega) (by omega)
       refine ⟨z2, ((48 + k0 / 10 : Nat) : Int), hz2, ?_, ?_⟩
       · show [CV.val (.int .u8 ((48 + k0 / 10 : Nat) : Int))] = [CV.val (.int .u8 (((UInt8.ofNat (48 + k0 / 10)).toNat : Nat) : Int))]
         rw [u8_nat (by omega)]
       conv => whnf
       refine ⟨trivial, ?_⟩
       have e2 : (part xs (digs n u) o (m - 1)).set (o + ((m - 2 : Nat) : Int).toNat) ((48 + k0 / 10 : Nat) : Int) = part xs (digs n u) o (m - 2) := by
         rw [Int.toNat_natCast]
         have := part_step (xs := xs) (n := n) (u := u) (o := o) (m := m - 2) (p := 1) (y := ((48 + k0 / 10 : Nat) : Int)) hlen (by omega) ?_
         · rw [show m - 2 + 1 = m - 1 by omega] at this
           exact this
         · rw [show m - 2 + 1 + 1 = m by omega, ← hv]
           omega
       rw [e2]
       conv => whnf
       refine ⟨⟨m - 2, by omega, by omega⟩, ⟨[0], ⟨rfl, ⟨rfl, rfl, trivial⟩, rfl⟩, rfl, eq_i64 ?_, eq_u32 ?_, trivial⟩⟩
       · rw [nsub (by omega), nwrapi (by omega)]
       · rw [← pow_next (by omega) hm, ← hv]
     · have g4 : m < 2 := ge_f g4
       conv => whnf
       exact ⟨⟨m, hm, g4⟩, ⟨[0], ⟨rfl, ⟨rfl, rfl, trivial⟩, rfl⟩, rfl, rfl, eq_u32 (by rw [hv]), trivial⟩⟩
   clear hv8 hvm hv v
   rintro ⟨m, hm, hm4⟩
   obtain ⟨v, hv⟩ : ∃ v, v = u / 10 ^ (n - m) := ⟨_, rfl⟩
   have hvm : v < 10 ^ m := by rw [hv]; exact last_small hun hm
   have hv8 : v < 10 := Nat.lt_of_lt_of_le hvm (Nat.pow_le_pow_right (by omega) (show m ≤ 1 by omega))
   conv => whnf
   rw [← hv]
   refine ⟨fun g4 => ?_, fun g4 => ?_⟩
   · have g4 : 0 < m := gt_t g4
     obtain rfl : m = 1 := by omega
     conv => whnf
     refine ⟨by omega, ?_⟩
     conv => whnf
     obtain ⟨z, hz⟩ := part_get (xs := xs) (D := digs n u) (o := o) (m := 1) (j := 0) (by omega) (by omega) (by omega)
     refine ⟨z, ((48 + v : Nat) : Int), hz, ?_, ?_⟩
     · show [CV.val (.int .u8 ((48 + v : Nat) : Int))] = [CV.val (.int .u8 (IntKind.u8.wrap (IntKind.u32.wrap (((48 : Nat) : Int) + (v : Int)))))]
       rw [nadd, nwrap32 (by omega), nwrap8 (by omega)]
     conv => whnf
     refine Or.inl ⟨rfl, ?_⟩
     have := part_step (xs := xs) (n := n) (u := u) (o := o) (m := 0) (p := 0) (y := ((48 + v : Nat) : Int)) hlen (by omega) (by rw [show n - (0 + 0 + 1) = n - 1 by omega, ← hv, Nat.pow_zero, Nat.div_one]; omega)
     rw [← this]
     rfl
   · have g4 : m ≤ 0 := gt_f g4
     obtain rfl : m = 0 := by omega
     conv => whnf
     exact Or.inl ⟨rfl, rfl⟩
end Go.Proofs.YtokkphocaloelaaGreatDoor

end
section
namespace Go.Proofs.YtokkphocaloelaaGreatDoor
open Go Go.Vc
set_option maxRecDepth 100000
set_option maxHeartbeats 8000000

def intB (ys : List Int) : Blk := .vec true 3 (encI .i64) [] 1 ys
theorem strOf_size' (l : List Int) : (strOf l).size = l.length := by
 have : ∀ (l : List Int) (r : ByteArray), (l.foldl (fun r n => r.push (UInt8.ofNat n.toNat)) r).size = r.size + l.length := by
   intro l
   induction l with
   | nil => intro r; rfl
   | cons x l ih =>
     intro r
     rw [List.foldl_cons, ih, ByteArray.size_push, List.length_cons]
     omega
 rw [strOf, this]
 show 0 + l.length = l.length
 omega
def fmtL (x : Int) : List Int :=
 if x < 0 then 45 :: digs (ndig x.natAbs) x.natAbs
 else if x < 10 then digs 1 x.toNat
 else if x < 100 then digs 2 x.toNat
 else digs (ndig x.natAbs) x.natAbs
theorem fmtL_len {x : Int} (h : x.natAbs < 18446744073709551616) : (fmtL x).length ≤ 21 := by
 have := ndig_le h
 unfold fmtL
 split
 · rw [List.length_cons, digs_len]; omega
 split
 · rw [digs_len]; omega
 split
 · rw [digs_len]; omega
 · rw [digs_len]; omega
theorem arr_part (D : List Int) : part (List.replicate 24 0) D 1 0 = 0 :: (D ++ (List.replicate 24 (0 : Int)).drop (1 + D.length)) := rfl
theorem iFmtIntW (w0 : World) (hp : pows w0) {x : Int} (h1 : -9223372036854775808 ≤ x) (h2 : x < 9223372036854775808) : CallsA Tryz.prog w0 57 [.c (.val (.int .i64 x)), .c (.val (.int .i64 ((10 : Nat) : Int)))] [] fun r H => r = .o (.c (.val (.string (strOf (fmtL x))))) ∧ H = [] := by
 refine callsA_of_ev c57_ ?_
 conv => whnf
 refine Or.inl ?_
 conv => whnf
 refine ⟨fun _ => ?_, fun g => absurd g (by decide)⟩
 conv => whnf
 refine Or.inr ⟨{_q : Unit // ¬ (0 ≤ x ∧ x < 100)}, fun _ => ⟨[(0, .o (.c (.val (.int .i64 x))))], []⟩, ?_, ?_⟩
 · have hsm : 0 ≤ x → x < 100 → CallsA Tryz.prog w0 98 [.c (.val (.int .i64 x))] [] fun r H' => r = .o (.c (.val (.string (strOf (fmtL x))))) ∧ H' = [] := by
     intro g1 g2
     have := smallW w0 [] (n := x.toNat) (by omega)
     rw [Int.toNat_of_nonneg g1] at this
     have e : (if x.toNat < 10 then digs 1 x.toNat else digs 2 x.toNat) = fmtL x := by
       unfold fmtL
       rw [if_neg (show ¬ x < 0 by omega)]
       by_cases h : x < 10
       · rw [if_pos (show x.toNat < 10 by omega), if_pos h]
       · rw [if_neg (show ¬ x.toNat < 10 by omega), if_neg h, if_pos g2]
     rw [e] at this
     exact this
   conv => whnf
   refine ⟨fun g => ?_, fun g => ?_⟩
   · have g : (0 : Int) ≤ x := of_decide_eq_true g
     conv => whnf
     refine ⟨fun g2 => ?_, fun g2 => ?_⟩
     · have g2 : x < 100 := of_decide_eq_true g2
       conv => whnf
       refine (hsm g g2).mono ?_
       rintro _ _ ⟨rfl, rfl⟩
       conv => whnf
       exact Or.inl ⟨rfl, rfl⟩
     · have g2 : ¬ x < 100 := of_decide_eq_false g2
       conv => whnf
       exact ⟨⟨(), fun h => g2 h.2⟩, [], ⟨rfl, trivial, rfl⟩, rfl, trivial⟩
   · have g : ¬ (0 : Int) ≤ x := of_decide_eq_false g
     conv => whnf
     exact ⟨⟨(), fun h => g h.1⟩, [], ⟨rfl, trivial, rfl⟩, rfl, trivial⟩
 rintro ⟨⟨⟩, hx⟩
 obtain ⟨u, hu⟩ : ∃ u, u = x.natAbs := ⟨_, rfl⟩
 obtain ⟨nd, hnd⟩ : ∃ nd, nd = ndig u := ⟨_, rfl⟩
 have hu2 : u < 18446744073709551616 := by omega
 have hnd20 : nd ≤ 20 := by rw [hnd]; exact ndig_le hu2
 have hnd1 : 1 ≤ nd := by rw [hnd]; exact ndig_pos (by omega) hu2
 have hun : u < 10 ^ nd := by rw [hnd]; exact lt_ndig hu2
 have hrep : (List.replicate 24 (0 : Int)).length = 24 := List.length_replicate
 have hb10 := base10W w0 (T := 180) (xs := List.replicate 24 0) (o := 1) (n := nd) (c := 23) (u := u) (by omega) hnd20 hu2 hun
 have hdl := digs_len nd u
 conv => whnf
 refine Or.inr ⟨Int, encI .u8, [], 1, List.replicate 24 0, by omega, fun _ => rfl, rfl, by rw [hrep]; omega, ?_⟩
 conv => whnf
 refine Or.inr ⟨Unit, fun _ => ⟨[(0, .o (.c (.val (.int .i64 x)))), (5, .o (.c (.ptr 0 0))), (6, .o (.c (.val (.int .u64 u))))], [arrB 180 (List.replicate 24 0)]⟩, ?_, ?_⟩
 · conv => whnf
   refine ⟨fun g => ?_, fun g => ?_⟩
   · have g : x < 0 := of_decide_eq_true g
     conv => whnf
     refine ⟨(), [0], ⟨rfl, ⟨rfl, rfl, trivial⟩, rfl⟩, rfl, rfl, eq_u64 ?_, trivial⟩
     rw [IntKind.wrap_u64, IntKind.wrap_u64]
     omega
   · have g : ¬ x < 0 := of_decide_eq_false g
     conv => whnf
     refine ⟨(), [0], ⟨rfl, ⟨rfl, rfl, trivial⟩, rfl⟩, rfl, rfl, eq_u64 ?_, trivial⟩
     rw [IntKind.wrap_u64]
     omega
 rintro ⟨⟩
 conv => whnf
 refine (numDigitsW w0 _ hp hu2).mono ?_
 rintro _ _ ⟨rfl, rfl⟩
 rw [← hnd]
 conv => whnf
 rw [nadd 1 nd, nwrapi (n := 1 + nd) (by omega)]
 refine ⟨⟨⟨by omega, by omega, by omega⟩, by omega⟩, ?_⟩
 conv => whnf
 have e1 : ((1 + nd : Nat) : Int).toNat - ((1 : Nat) : Int).toNat = nd := by omega
 rw [e1]
 refine hb10.mono ?_
 rintro _ _ ⟨rfl, rfl⟩
 rw [arr_part]
 conv => whnf
 refine Or.inl ?_
 conv => whnf
 refine ⟨fun g => ?_, fun g => ?_⟩
 · have g : x < 0 := of_decide_eq_true g
   conv => whnf
   refine ⟨by omega, ?_⟩
   conv => whnf
   refine ⟨0, 45, rfl, rfl, ?_⟩
   conv => whnf
   rw [nadd 1 nd, nwrapi (n := 1 + nd) (by omega)]
   refine ⟨⟨⟨by omega, by omega⟩, by omega⟩, Or.inl ?_⟩
   conv => whnf
   refine ⟨trivial, 45 :: digs nd u, ⟨rfl, rfl, ?_, ?_, ?_⟩, ?_⟩
   · show 0 + ((1 + nd : Nat) : Int).toNat ≤ (45 :: (digs nd u ++ (List.replicate 24 (0 : Int)).drop (1 + (digs nd u).length))).length
     rw [List.length_cons, List.length_append]
     omega
   · show (45 :: digs nd u).length = _
     rw [List.length_cons]
     omega
   · show flat (encI .u8) [] _ = flat (encI .u8) [] (List.take ((1 + nd : Nat) : Int).toNat (45 :: (digs nd u ++ (List.replicate 24 (0 : Int)).drop (1 + (digs nd u).length))))
     rw [Int.toNat_natCast, Nat.add_comm, List.take_succ_cons, List.take_append_of_le_length (by omega), List.take_of_length_le (by omega)]
   · conv => whnf
     refine Or.inr ⟨[], .o (.c (.val (.string (strOf (fmtL x))))), [], ⟨rfl, trivial, rfl⟩, ?_, rfl, rfl⟩
     unfold fmtL
     rw [if_pos g, ← hu, ← hnd]
     rfl
 · have g : ¬ x < 0 := of_decide_eq_false g
   conv => whnf
   rw [nadd 1 nd, nwrapi (n := 1 + nd) (by omega)]
   refine ⟨⟨⟨by omega, by omega, by omega⟩, by omega⟩, ?_⟩
   conv => whnf
   rw [e1]
   refine ⟨trivial, digs nd u, ⟨rfl, rfl, ?_, hdl, ?_⟩, ?_⟩
   · show 1 + nd ≤ (0 :: (digs nd u ++ (List.replicate 24 (0 : Int)).drop (1 + (digs nd u).length))).length
     rw [List.length_cons, List.length_append]
     omega
   · show flat (encI .u8) [] _ = flat (encI .u8) [] (List.take nd (digs nd u ++ (List.replicate 24 (0 : Int)).drop (1 + (digs nd u).length)))
     rw [List.take_append_of_le_length (by omega), List.take_of_length_le (by omega)]
   · conv => whnf
     refine Or.inr ⟨[], .o (.c (.val (.string (strOf (fmtL x))))), [], ⟨rfl, trivial, rfl⟩, ?_, rfl, rfl⟩
     unfold fmtL
     rw [if_neg g, if_neg (show ¬ x < 10 by omega), if_neg (show ¬ x < 100 by omega), ← hu, ← hnd]
     rfl
theorem fmtIntW (w0 : World) (hp : pows w0) {x : Int} (h1 : -9223372036854775808 ≤ x) (h2 : x < 9223372036854775808) : CallsA Tryz.prog w0 32 [.c (.val (.int .i64 x)), .c (.val (.int .i64 ((10 : Nat) : Int)))] [] fun r H => r = .o (.c (.val (.string (strOf (fmtL x))))) ∧ H = [] := by
 refine callsA_of_ev c32_ ?_
 conv => whnf
 refine (iFmtIntW w0 hp h1 h2).mono ?_
 rintro _ _ ⟨rfl, rfl⟩
 conv => whnf
 exact Or.inl ⟨rfl, rfl⟩
theorem strOf_fold' (b : List Int) : ∀ r : ByteArray, b.foldl (fun r n => r.push (UInt8.ofNat n.toNat)) r = r ++ strOf b := by
 induction b with
 | nil =>
   intro r
   show r = r ++ ByteArray.empty
   rw [ByteArray.append_empty]
 | cons x t ih =>
   intro r
   show t.foldl _ (r.push _) = r ++ t.foldl _ (ByteArray.empty.push _)
   rw [ih, ih, ← ByteArray.append_assoc]
   congr 1
   apply ByteArray.ext
   simp
theorem strOf_append' (a b : List Int) : strOf (a ++ b) = strOf a ++ strOf b := by
 show (a ++ b).foldl _ ByteArray.empty = _
 rw [List.foldl_append, strOf_fold']
 rfl
def numL (x : Int) : List Int := fmtL x ++ [32]
def numsL (ys : List Int) : List Int := 91 :: ys.flatMap numL ++ [93]
theorem numL_len : ∀ {l : List Int}, (∀ x ∈ l, x.natAbs < 18446744073709551616) → (l.flatMap numL).length ≤ 22 * l.length
 | [], _ => Nat.zero_le _
 | x :: l, h => by
   have h1 := numL_len (l := l) fun y hy => h y (List.mem_cons_of_mem _ hy)
   have h2 := fmtL_len (x := x) (h x (List.mem_cons_self ..))
   rw [List.flatMap_cons, List.length_append, List.length_cons]
   unfold numL at h1 ⊢
   rw [List.length_append]
   show _ + 1 + _ ≤ _
   omega
theorem numsM (w0 : World) (hp : pows w0) {ys : List Int} {a : Addr} {c : Nat} (hb : ∀ (i : Nat) x, ys[i]? = some x → w0.cell? (a.add (i * 1)) = some (.int .i64 x)) (hl : ys.length ≤ 1099511627776) (hx : ∀ x ∈ ys, -9223372036854775808 ≤ x ∧ x < 9223372036854775808) : CallsA Tryz.prog w0 42 [.c (.val (.slice (some a) ys.length c))] [] fun r H => r = .o (.c (.val (.string (strOf (numsL ys))))) ∧ H = [] := by
 refine callsA_of_ev c42_ ?_
 conv => whnf
 refine Or.inl ?_
 conv => whnf
 refine ⟨_root_.Fin (ys.length + 1), fun ⟨j, _⟩ => ⟨[(3, .o (.c (.val (.string (strOf (91 :: (ys.take j).flatMap numL)))))), (6, .o (.c (.val (.slice (some a) ys.length c)))), (7, .o (.c (.val (.int .i64 ys.length)))), (8, .o (.c (.val (.int .i64 j))))], []⟩, fun j => ys.length - j.1, ⟨⟨0, by omega⟩, [], ⟨rfl, trivial, rfl⟩, rfl, rfl, rfl, rfl, trivial⟩, fun ⟨j, hj⟩ => ?_⟩
 conv => whnf
 refine ⟨fun h3 => ?_, fun h3 => ?_⟩
 · have h3 : j < ys.length := lt_t h3
   obtain ⟨x, hxj⟩ : ∃ x, ys[j]? = some x := ⟨_, List.getElem?_eq_getElem h3⟩
   obtain ⟨hx1, hx2⟩ := hx x (List.mem_of_getElem? hxj)
   have hxn : ∀ y ∈ ys.take j, y.natAbs < 18446744073709551616 := by
     intro y hy
     have := hx y (List.mem_of_mem_take hy)
     omega
   have hsz := numL_len hxn
   have hfl := fmtL_len (x := x) (by omega)
   have hlt : (ys.take j).length ≤ j := by rw [List.length_take]; omega
   conv => whnf
   refine Or.inl ?_
   conv => whnf
   refine ⟨by omega, ?_⟩
   conv => whnf
   refine ⟨_, hb j x hxj, rfl, ?_⟩
   conv => whnf
   refine Or.inr ⟨Unit, fun _ => ⟨[(3, .o (.c (.val (.string (strOf (91 :: (ys.take j).flatMap numL)))))), (5, .o (.c (.val (.int .i64 x)))), (6, .o (.c (.val (.slice (some a) ys.length c)))), (7, .o (.c (.val (.int .i64 ys.length)))), (8, .o (.c (.val (.int .i64 j))))], []⟩, ?_, ?_⟩
   · conv => whnf
     refine ⟨fun g => ?_, fun g => ?_⟩
     · have g : 9223372036854775808 ≤ IntKind.u64.wrap x := of_decide_eq_true g
       rw [IntKind.wrap_u64] at g
       conv => whnf
       refine ⟨fun g2 => absurd (show (0 : Int) < x from of_decide_eq_true g2) (by omega), fun _ => ?_⟩
       conv => whnf
       exact ⟨(), [], ⟨rfl, trivial, rfl⟩, rfl, rfl, rfl, rfl, rfl, trivial⟩
     · conv => whnf
       exact ⟨(), [], ⟨rfl, trivial, rfl⟩, rfl, rfl, rfl, rfl, rfl, trivial⟩
   rintro ⟨⟩
   conv => whnf
   refine (CallsA_frame rfl rfl (fmtIntW w0 hp hx1 hx2) _).mono ?_
   rintro _ _ ⟨rfl, rfl⟩
   conv => whnf
   refine ⟨?_, ?_⟩
   · show (strOf (fmtL x)).size + (ByteArray.mk #[32]).size ≤ 9223372036854775807
     rw [strOf_size']
     show (fmtL x).length + 1 ≤ _
     omega
   conv => whnf
   refine ⟨?_, ?_⟩
   · show (strOf (91 :: (ys.take j).flatMap numL)).size + (strOf (fmtL x) ++ strOf [32]).size ≤ 9223372036854775807
     rw [← strOf_append', strOf_size', strOf_size', List.length_append, List.length_cons]
     show _ + 1 + (_ + 1) ≤ _
     omega
   conv => whnf
   refine ⟨⟨j + 1, by omega⟩, ⟨[], ⟨rfl, trivial, rfl⟩, ?_, rfl, rfl, eq_i64 ?_, trivial⟩, ?_⟩
   · show some (AV.o (.c (.val (.string (strOf (91 :: (ys.take j).flatMap numL) ++ (strOf (fmtL x) ++ strOf [32])))))) = some (AV.o (.c (.val (.string (strOf (91 :: (ys.take (j + 1)).flatMap numL))))))
     rw [← strOf_append', ← strOf_append', List.cons_append, List.take_add_one, hxj]
     rw [show some x = some x from rfl, Option.toList_some, List.flatMap_append, List.flatMap_singleton]
     rfl
   · rw [nadd, nwrapi (by omega)]
   · show ys.length - (j + 1) < ys.length - j
     omega
 · have h3 : ys.length ≤ j := lt_f h3
   rw [List.take_of_length_le h3]
   have hxn : ∀ y ∈ ys, y.natAbs < 18446744073709551616 := by
     intro y hy
     have := hx y hy
     omega
   have hsz := numL_len hxn
   conv => whnf
   refine ⟨?_, ?_⟩
   · show (strOf (91 :: ys.flatMap numL)).size + 1 ≤ 9223372036854775807
     rw [strOf_size', List.length_cons]
     omega
   conv => whnf
   refine Or.inl ⟨?_, rfl⟩
   show AV.o (.c (.val (.string (strOf (91 :: ys.flatMap numL) ++ strOf [93])))) = _
   rw [← strOf_append']
   rfl
theorem numsV (w0 : World) (hp : pows w0) {ys : List Int} (hl : ys.length ≤ 1099511627776) (hx : ∀ x ∈ ys, -9223372036854775808 ≤ x ∧ x < 9223372036854775808) : CallsA Tryz.prog w0 42 [.c (.vec 0 ys.length)] [intB ys] fun r H => r = .o (.c (.val (.string (strOf (numsL ys))))) ∧ H = [intB ys] := by
 refine callsA_of_ev c42_ ?_
 conv => whnf
 refine Or.inl ?_
 conv => whnf
 refine ⟨_root_.Fin (ys.length + 1), fun ⟨j, _⟩ => ⟨[(3, .o (.c (.val (.string (strOf (91 :: (ys.take j).flatMap numL)))))), (6, .o (.c (.vec 0 ys.length))), (7, .o (.c (.val (.int .i64 ys.length)))), (8, .o (.c (.val (.int .i64 j))))], [intB ys]⟩, fun j => ys.length - j.1, ⟨⟨0, by omega⟩, [0], ⟨rfl, ⟨rfl, rfl, trivial⟩, rfl⟩, rfl, rfl, rfl, rfl, trivial⟩, fun ⟨j, hj⟩ => ?_⟩
 conv => whnf
 refine ⟨fun h3 => ?_, fun h3 => ?_⟩
 · have h3 : j < ys.length := lt_t h3
   obtain ⟨x, hxj⟩ : ∃ x, ys[j]? = some x := ⟨_, List.getElem?_eq_getElem h3⟩
   obtain ⟨hx1, hx2⟩ := hx x (List.mem_of_getElem? hxj)
   have hxn : ∀ y ∈ ys.take j, y.natAbs < 18446744073709551616 := by
     intro y hy
     have := hx y (List.mem_of_mem_take hy)
     omega
   have hsz := numL_len hxn
   have hfl := fmtL_len (x := x) (by omega)
   have hlt : (ys.take j).length ≤ j := by rw [List.length_take]; omega
   conv => whnf
   refine Or.inl ?_
   conv => whnf
   refine ⟨by omega, ?_⟩
   conv => whnf
   refine ⟨_, hxj, ?_⟩
   conv => whnf
   refine Or.inr ⟨Unit, fun _ => ⟨[(3, .o (.c (.val (.string (strOf (91 :: (ys.take j).flatMap numL)))))), (5, .o (.c (.val (.int .i64 x)))), (6, .o (.c (.vec 0 ys.length))), (7, .o (.c (.val (.int .i64 ys.length)))), (8, .o (.c (.val (.int .i64 j))))], [intB ys]⟩, ?_, ?_⟩
   · conv => whnf
     refine ⟨fun g => ?_, fun g => ?_⟩
     · have g : 9223372036854775808 ≤ IntKind.u64.wrap x := of_decide_eq_true g
       rw [IntKind.wrap_u64] at g
       conv => whnf
       refine ⟨fun g2 => absurd (show (0 : Int) < x from of_decide_eq_true g2) (by omega), fun _ => ?_⟩
       conv => whnf
       exact ⟨(), [0], ⟨rfl, ⟨rfl, rfl, trivial⟩, rfl⟩, rfl, rfl, rfl, rfl, rfl, trivial⟩
     · conv => whnf
       exact ⟨(), [0], ⟨rfl, ⟨rfl, rfl, trivial⟩, rfl⟩, rfl, rfl, rfl, rfl, rfl, trivial⟩
   rintro ⟨⟩
   conv => whnf
   refine (CallsA_frame rfl rfl (fmtIntW w0 hp hx1 hx2) _).mono ?_
   rintro _ _ ⟨rfl, rfl⟩
   conv => whnf
   refine ⟨?_, ?_⟩
   · show (strOf (fmtL x)).size + (ByteArray.mk #[32]).size ≤ 9223372036854775807
     rw [strOf_size']
     show (fmtL x).length + 1 ≤ _
     omega
   conv => whnf
   refine ⟨?_, ?_⟩
   · show (strOf (91 :: (ys.take j).flatMap numL)).size + (strOf (fmtL x) ++ strOf [32]).size ≤ 9223372036854775807
     rw [← strOf_append', strOf_size', strOf_size', List.length_append, List.length_cons]
     show _ + 1 + (_ + 1) ≤ _
     omega
   conv => whnf
   refine ⟨⟨j + 1, by omega⟩, ⟨[0], ⟨rfl, ⟨rfl, rfl, trivial⟩, rfl⟩, ?_, rfl, rfl, eq_i64 ?_, trivial⟩, ?_⟩
   · show some (AV.o (.c (.val (.string (strOf (91 :: (ys.take j).flatMap numL) ++ (strOf (fmtL x) ++ strOf [32])))))) = some (AV.o (.c (.val (.string (strOf (91 :: (ys.take (j + 1)).flatMap numL))))))
     rw [← strOf_append', ← strOf_append', List.cons_append, List.take_add_one, hxj]
     rw [show some x = some x from rfl, Option.toList_some, List.flatMap_append, List.flatMap_singleton]
     rfl
   · rw [nadd, nwrapi (by omega)]
   · show ys.length - (j + 1) < ys.length - j
     omega
 · have h3 : ys.length ≤ j := lt_f h3
   rw [List.take_of_length_le h3]
   have hxn : ∀ y ∈ ys, y.natAbs < 18446744073709551616 := by
     intro y hy
     have := hx y hy
     omega
   have hsz := numL_len hxn
   conv => whnf
   refine ⟨?_, ?_⟩
   · show (strOf (91 :: ys.flatMap numL)).size + 1 ≤ 9223372036854775807
     rw [strOf_size', List.length_cons]
     omega
   conv => whnf
   refine Or.inl ⟨?_, rfl⟩
   show AV.o (.c (.val (.string (strOf (91 :: ys.flatMap numL) ++ strOf [93])))) = _
   rw [← strOf_append']
   rfl
end Go.Proofs.YtokkphocaloelaaGreatDoor

end
section
namespace Go.Proofs.YtokkphocaloelaaGreatDoor
open Go Go.Vc
set_option maxRecDepth 100000
theorem c44_ : compF Tryz.prog 44 = some (.mk (sr [gg 2 (.mov (.k (.string (ByteArray.mk #[]))))] (sr [gm 3 0, gg 4 (.call 86 [(.t 3), (xk .u8 34), (.k (.bool false)), (.k (.bool false))]), gm 2 4] .ret)) 1 [(.t 2)]) := by kernel_rfl
theorem c86_ : compF Tryz.prog 86 = some (.mk (sr [gg 8 (.mov (.k (.string (ByteArray.mk #[]))))] (sr [gm 9 0, gg 10 (.len true (.t 9)), gg 11 (.bin .mul (xk .i64 3) (.t 10)), gg 12 (.bik .quo .i64 (.t 11) 2), gg 13 (.mks 5 1 1 [(.int .u8 ((0:Nat):Int))] (xk .i64 0) (.t 12)), gm 14 0, gm 15 1, gm 16 2, gm 17 3, gg 18 (.call 118 [(.t 13), (.t 14), (.t 15), (.t 16), (.t 17)]), gg 19 (.b2s (.t 18)), gm 8 19] .ret)) 4 [(.t 8)]) := by kernel_rfl
theorem c118_ : compF Tryz.prog 118 = some (.mk (sr [gg 10 (.mov (.k (.slice none 0 0)))] (.cut (sr [gm 14 0, gg 15 (.cap (.t 14)), gm 16 0, gg 17 (.len false (.t 16)), gg 18 (.bin .sub (.t 15) (.t 17)), gm 19 1, gg 20 (.len true (.t 19)), gg 21 (.bin .lss (.t 18) (.t 20))] (.cond (.t 21) (sr [gm 22 0, gg 23 (.len false (.t 22)), gm 24 0, gg 25 (.len false (.t 24)), gg 26 (.bin .add (.t 25) (xk .i64 1)), gm 27 1, gg 28 (.len true (.t 27)), gg 29 (.bin .add (.t 26) (.t 28)), gg 30 (.bin .add (.t 29) (xk .i64 1)), gg 31 (.mks 5 1 1 [(.int .u8 ((0:Nat):Int))] (.t 23) (.t 30)), gm 11 31] (sr [gm 32 11, gm 33 0, gg 34 (.cpy 1 (.t 32) (.t 33))] (.reg [gm 35 11, gm 0 35]))) .skip)) (sr [gm 36 0, gm 37 2, gg 38 (.bsl 5 1 1 [(.int .u8 ((0:Nat):Int))] [(0, (1, (.t 37)))]), gg 39 (.app 5 1 1 (.t 36) (.t 38)), gm 0 39] (.cut (sr [gg 12 (.mov (xk .i32 0)), gg 13 (.mov (xk .i64 0))] (.block 0 (.loop (.seq (sr [gm 40 1, gg 41 (.len true (.t 40)), gg 42 (.bin .gtr (.t 41) (xk .i64 0))] (.cond (.t 42) .skip (.exit 0))) (.cut (.block 1 (sr [gm 47 1, gg 48 (.call 130 [(.t 47)]), gm 46 48, gg 49 (.ext (.t 46) 0), gg 50 (.ext (.t 46) 1), gm 12 49, gm 13 50] (.cut (sr [gm 51 13, gg 52 (.bin .eql (.t 51) (xk .i64 1)), gm 53 52, gq 54 53 true (.mov (.t 12)), gq 55 53 true (.bin .eql (.t 54) (xk .i32 65533)), gg 56 (.pick (.t 53) (.t 55) (.k (.bool false)))] (.cond (.t 56) (sr [gm 57 0, gg 58 (.app 5 1 1 (.t 57) (.k (.string (ByteArray.mk #[92, 120])))), gm 0 58] (sr [gm 59 0, gm 60 1, gg 61 (.si (.t 60) (xk .i64 0)), gg 62 (.bik .shr .u64 (.t 61) 4), gg 63 (.si (.k (.string (ByteArray.mk #[48, 49, 50, 51, 52, 53, 54, 55, 56, 57, 97, 98, 99, 100, 101, 102]))) (.t 62)), gg 64 (.bsl 5 1 1 [(.int .u8 ((0:Nat):Int))] [(0, (1, (.t 63)))]), gg 65 (.app 5 1 1 (.t 59) (.t 64)), gm 0 65] (sr [gm 66 0, gm 67 1, gg 68 (.si (.t 67) (xk .i64 0)), gg 69 (.bin .and (.t 68) (xk .u8 15)), gg 70 (.si (.k (.string (ByteArray.mk #[48, 49, 50, 51, 52, 53, 54, 55, 56, 57, 97, 98, 99, 100, 101, 102]))) (.t 69)), gg 71 (.bsl 5 1 1 [(.int .u8 ((0:Nat):Int))] [(0, (1, (.t 70)))]), gg 72 (.app 5 1 1 (.t 66) (.t 71)), gm 0 72] (.exit 1)))) .skip)) (.reg [gm 73 0, gm 74 12, gm 75 2, gm 76 3, gm 77 4, gg 78 (.call 131 [(.t 73), (.t 74), (.t 75), (.t 76), (.t 77)]), gm 0 78])))) (.reg [gm 43 1, gm 44 13, gg 45 (.sls (.t 43) (some (.t 44)) none), gm 1 45])))))) (sr [gm 79 0, gm 80 2, gg 81 (.bsl 5 1 1 [(.int .u8 ((0:Nat):Int))] [(0, (1, (.t 80)))]), gg 82 (.app 5 1 1 (.t 79) (.t 81)), gm 0 82] (sr [gm 83 0, gm 10 83] .ret)))))) 5 [(.t 10)]) := by kernel_rfl
theorem c130_ : compF Tryz.prog 130 = some (.mk (sr [gg 2 (.mov (xk .i32 0)), gg 3 (.mov (xk .i64 0))] (.cut (sr [gm 4 0, gg 5 (.bin .neq (.t 4) (.k (.string (ByteArray.mk #[])))), gm 6 5, gq 7 6 true (.mov (.t 0)), gq 8 6 true (.si (.t 7) (xk .i64 0)), gq 9 6 true (.bin .lss (.t 8) (xk .u8 128)), gg 10 (.pick (.t 6) (.t 9) (.k (.bool false)))] (.cond (.t 10) (sr [gm 11 0, gg 12 (.si (.t 11) (xk .i64 0)), gg 13 (.cvi .i32 (.t 12)), gm 2 13, gg 3 (.mov (xk .i64 1))] .ret) (.reg [gm 15 0, gg 16 (.call 136 [(.t 15)]), gm 14 16, gg 17 (.ext (.t 14) 0), gg 18 (.ext (.t 14) 1), gm 2 17, gm 3 18]))) .ret)) 1 [(.t 2), (.t 3)]) := by kernel_rfl
theorem c131_ : compF Tryz.prog 131 = some (.mk (sr [gg 10 (.mov (.k (.slice none 0 0)))] (.cut (sr [gm 13 1, gm 14 2, gg 15 (.cvi .i32 (.t 14)), gg 16 (.bin .eql (.t 13) (.t 15)), gm 17 16, gq 18 17 false (.mov (.t 1)), gq 19 17 false (.bin .eql (.t 18) (xk .i32 92)), gg 20 (.pick (.t 17) (.k (.bool true)) (.t 19))] (.cond (.t 20) (sr [gm 21 0, gg 22 (.bsl 5 1 1 [(.int .u8 ((0:Nat):Int))] [(0, (1, (xk .u8 92)))]), gg 23 (.app 5 1 1 (.t 21) (.t 22)), gm 0 23] (sr [gm 24 0, gm 25 1, gg 26 (.cvi .u8 (.t 25)), gg 27 (.bsl 5 1 1 [(.int .u8 ((0:Nat):Int))] [(0, (1, (.t 26)))]), gg 28 (.app 5 1 1 (.t 24) (.t 27)), gm 0 28] (sr [gm 29 0, gm 10 29] .ret))) .skip)) (.cut (sr [gm 30 3] (.cond (.t 30) (sr [gm 31 1, gg 32 (.bin .lss (.t 31) (xk .i32 128)), gm 33 32, gq 34 33 true (.mov (.t 1)), gq 35 33 true (.call 137 [(.t 34)]), gg 36 (.pick (.t 33) (.t 35) (.k (.bool false)))] (.cond (.t 36) (sr [gm 37 0, gm 38 1, gg 39 (.cvi .u8 (.t 38)), gg 40 (.bsl 5 1 1 [(.int .u8 ((0:Nat):Int))] [(0, (1, (.t 39)))]), gg 41 (.app 5 1 1 (.t 37) (.t 40)), gm 0 41] (sr [gm 42 0, gm 10 42] .ret)) .skip)) (sr [gm 43 1, gg 44 (.call 137 [(.t 43)]), gm 45 44, gq 46 45 false (.mov (.t 4)), gq 47 45 false (.mov (.t 46)), gq 48 47 true (.mov (.t 1)), gq 49 47 true (.call 138 [(.t 48)]), gq 50 45 false (.pick (.t 47) (.t 49) (.k (.bool false))), gg 51 (.pick (.t 45) (.k (.bool true)) (.t 50))] (.cond (.t 51) (sr [gm 52 0, gm 53 1, gg 54 (.call 139 [(.t 52), (.t 53)]), gm 10 54] .ret) .skip)))) (.cut (sr [gm 55 1] (.block 0 (sr [gg 117 (.bin .eql (.t 55) (xk .i32 7)), gm 116 117] (.cond (.t 116) (.reg [gm 118 0, gg 119 (.app 5 1 1 (.t 118) (.k (.string (ByteArray.mk #[92, 97])))), gm 0 119]) (sr [gg 121 (.bin .eql (.t 55) (xk .i32 8)), gm 120 121] (.cond (.t 120) (.reg [gm 122 0, gg 123 (.app 5 1 1 (.t 122) (.k (.string (ByteArray.mk #[92, 98])))), gm 0 123]) (sr [gg 125 (.bin .eql (.t 55) (xk .i32 12)), gm 124 125] (.cond (.t 124) (.reg [gm 126 0, gg 127 (.app 5 1 1 (.t 126) (.k (.string (ByteArray.mk #[92, 102])))), gm 0 127]) (sr [gg 129 (.bin .eql (.t 55) (xk .i32 10)), gm 128 129] (.cond (.t 128) (.reg [gm 130 0, gg 131 (.app 5 1 1 (.t 130) (.k (.string (ByteArray.mk #[92, 110])))), gm 0 131]) (sr [gg 133 (.bin .eql (.t 55) (xk .i32 13)), gm 132 133] (.cond (.t 132) (.reg [gm 134 0, gg 135 (.app 5 1 1 (.t 134) (.k (.string (ByteArray.mk #[92, 114])))), gm 0 135]) (sr [gg 137 (.bin .eql (.t 55) (xk .i32 9)), gm 136 137] (.cond (.t 136) (.reg [gm 138 0, gg 139 (.app 5 1 1 (.t 138) (.k (.string (ByteArray.mk #[92, 116])))), gm 0 139]) (sr [gg 141 (.bin .eql (.t 55) (xk .i32 11)), gm 140 141] (.cond (.t 140) (.reg [gm 142 0, gg 143 (.app 5 1 1 (.t 142) (.k (.string (ByteArray.mk #[92, 118])))), gm 0 143]) (.block 1 (.cut (.block 5 (.cut (.block 4 (.cut (.block 3 (.cut (.block 2 (.cut (.cut (sr [gm 57 1, gg 58 (.bin .lss (.t 57) (xk .i32 32)), gm 59 58, gq 60 59 false (.mov (.t 1)), gq 61 59 false (.bin .eql (.t 60) (xk .i32 127)), gg 62 (.pick (.t 59) (.k (.bool true)) (.t 61)), gm 56 62] (.cond (.t 56) (.exit 2) .skip)) (.cut (sr [gm 64 1, gg 65 (.call 140 [(.t 64)]), gg 66 (.un .not (.t 65)), gm 63 66] (.cond (.t 63) (.exit 3) .skip)) (sr [gm 68 1, gg 69 (.bin .lss (.t 68) (xk .i32 65536)), gm 67 69] (.cond (.t 67) (.exit 4) .skip)))) (.exit 5))) (.seq (sr [gm 70 0, gg 71 (.app 5 1 1 (.t 70) (.k (.string (ByteArray.mk #[92, 120])))), gm 0 71] (sr [gm 72 0, gm 73 1, gg 74 (.cvi .u8 (.t 73)), gg 75 (.bik .shr .u64 (.t 74) 4), gg 76 (.si (.k (.string (ByteArray.mk #[48, 49, 50, 51, 52, 53, 54, 55, 56, 57, 97, 98, 99, 100, 101, 102]))) (.t 75)), gg 77 (.bsl 5 1 1 [(.int .u8 ((0:Nat):Int))] [(0, (1, (.t 76)))]), gg 78 (.app 5 1 1 (.t 72) (.t 77)), gm 0 78] (.reg [gm 79 0, gm 80 1, gg 81 (.cvi .u8 (.t 80)), gg 82 (.bin .and (.t 81) (xk .u8 15)), gg 83 (.si (.k (.string (ByteArray.mk #[48, 49, 50, 51, 52, 53, 54, 55, 56, 57, 97, 98, 99, 100, 101, 102]))) (.t 82)), gg 84 (.bsl 5 1 1 [(.int .u8 ((0:Nat):Int))] [(0, (1, (.t 83)))]), gg 85 (.app 5 1 1 (.t 79) (.t 84)), gm 0 85]))) (.exit 1)))) (.reg [gg 1 (.mov (xk .i32 65533))]))) (.cut (sr [gm 86 0, gg 87 (.app 5 1 1 (.t 86) (.k (.string (ByteArray.mk #[92, 117])))), gm 0 87] (sr [gg 11 (.mov (xk .i64 12))] (.block 6 (.loop (.seq (sr [gm 88 11, gg 89 (.bin .geq (.t 88) (xk .i64 0))] (.cond (.t 89) .skip (.exit 6))) (.seq (.block 7 (.reg [gm 92 0, gm 93 1, gm 94 11, gg 95 (.cvi .u64 (.t 94)), gg 96 (.bin .shr (.t 93) (.t 95)), gg 97 (.bin .and (.t 96) (xk .i32 15)), gg 98 (.si (.k (.string (ByteArray.mk #[48, 49, 50, 51, 52, 53, 54, 55, 56, 57, 97, 98, 99, 100, 101, 102]))) (.t 97)), gg 99 (.bsl 5 1 1 [(.int .u8 ((0:Nat):Int))] [(0, (1, (.t 98)))]), gg 100 (.app 5 1 1 (.t 92) (.t 99)), gm 0 100])) (.reg [gm 90 11, gg 91 (.bin .sub (.t 90) (xk .i64 4)), gm 11 91]))))))) (.exit 1)))) (.cut (sr [gm 101 0, gg 102 (.app 5 1 1 (.t 101) (.k (.string (ByteArray.mk #[92, 85])))), gm 0 102] (sr [gg 12 (.mov (xk .i64 28))] (.block 8 (.loop (.seq (sr [gm 103 12, gg 104 (.bin .geq (.t 103) (xk .i64 0))] (.cond (.t 104) .skip (.exit 8))) (.seq (.block 9 (.reg [gm 107 0, gm 108 1, gm 109 12, gg 110 (.cvi .u64 (.t 109)), gg 111 (.bin .shr (.t 108) (.t 110)), gg 112 (.bin .and (.t 111) (xk .i32 15)), gg 113 (.si (.k (.string (ByteArray.mk #[48, 49, 50, 51, 52, 53, 54, 55, 56, 57, 97, 98, 99, 100, 101, 102]))) (.t 112)), gg 114 (.bsl 5 1 1 [(.int .u8 ((0:Nat):Int))] [(0, (1, (.t 113)))]), gg 115 (.app 5 1 1 (.t 107) (.t 114)), gm 0 115])) (.reg [gm 105 12, gg 106 (.bin .sub (.t 105) (xk .i64 4)), gm 12 106]))))))) (.exit 1)))))))))))))))))))) (sr [gm 144 0, gm 10 144] .ret))))) 5 [(.t 10)]) := by kernel_rfl
theorem c136_ : compF Tryz.prog 136 = some (.mk (sr [gg 2 (.mov (xk .i32 0)), gg 3 (.mov (xk .i64 0))] (sr [gm 13 0, gg 14 (.len true (.t 13)), gm 4 14] (.cut (sr [gm 15 4, gg 16 (.bin .lss (.t 15) (xk .i64 1))] (.cond (.t 16) (sr [gg 2 (.mov (xk .i32 65533)), gg 3 (.mov (xk .i64 0))] .ret) .skip)) (sr [gm 17 0, gg 18 (.si (.t 17) (xk .i64 0)), gm 5 18] (sr [gm 19 5, gg 20 (.iaa (.k (.pointer (some (Addr.mk 14 0 none)))) (.t 19) 1 256), gg 21 (.ld (.t 20) none), gm 6 21] (.cut (sr [gm 22 6, gg 23 (.bin .geq (.t 22) (xk .u8 240))] (.cond (.t 23) (sr [gm 24 6, gg 25 (.cvi .i32 (.t 24)), gg 26 (.bik .shl .u64 (.t 25) 31), gg 27 (.bik .shr .u64 (.t 26) 31), gm 7 27] (sr [gm 28 0, gg 29 (.si (.t 28) (xk .i64 0)), gg 30 (.cvi .i32 (.t 29)), gm 31 7, gg 32 (.bin .andNot (.t 30) (.t 31)), gm 33 7, gg 34 (.bin .and (xk .i32 65533) (.t 33)), gg 35 (.bin .or (.t 32) (.t 34)), gm 2 35, gg 3 (.mov (xk .i64 1))] .ret)) .skip)) (sr [gm 36 6, gg 37 (.bin .and (.t 36) (xk .u8 7)), gg 38 (.cvi .i64 (.t 37)), gm 8 38] (sr [gm 39 6, gg 40 (.bik .shr .u64 (.t 39) 4), gg 41 (.iaa (.k (.pointer (some (Addr.mk 15 0 none)))) (.t 40) 2 16), gg 42 (.ld (.t 41) (some 2)), gg 9 (.alc 219 [(.int .u8 ((0:Nat):Int)), (.int .u8 ((0:Nat):Int))]), (G.mk none none (.st (.t 9) (.t 42) 2))] (.cut (sr [gm 43 4, gm 44 8, gg 45 (.bin .lss (.t 43) (.t 44))] (.cond (.t 45) (sr [gg 2 (.mov (xk .i32 65533)), gg 3 (.mov (xk .i64 1))] .ret) .skip)) (sr [gm 46 0, gg 47 (.si (.t 46) (xk .i64 1)), gm 10 47] (.cut (sr [gm 48 10, gg 49 (.ffa (.t 9) 0), gg 50 (.ld (.t 49) none), gg 51 (.bin .lss (.t 48) (.t 50)), gm 52 51, gq 53 52 false (.ffa (.t 9) 1), gq 54 52 false (.ld (.t 53) none), gq 55 52 false (.mov (.t 10)), gq 56 52 false (.bin .lss (.t 54) (.t 55)), gg 57 (.pick (.t 52) (.k (.bool true)) (.t 56))] (.cond (.t 57) (sr [gg 2 (.mov (xk .i32 65533)), gg 3 (.mov (xk .i64 1))] .ret) .skip)) (.cut (sr [gm 58 8, gg 59 (.bin .leq (.t 58) (xk .i64 2))] (.cond (.t 59) (sr [gm 60 5, gg 61 (.bin .and (.t 60) (xk .u8 31)), gg 62 (.cvi .i32 (.t 61)), gg 63 (.bik .shl .u64 (.t 62) 6), gm 64 10, gg 65 (.bin .and (.t 64) (xk .u8 63)), gg 66 (.cvi .i32 (.t 65)), gg 67 (.bin .or (.t 63) (.t 66)), gm 2 67, gg 3 (.mov (xk .i64 2))] .ret) .skip)) (sr [gm 68 0, gg 69 (.si (.t 68) (xk .i64 2)), gm 11 69] (.cut (sr [gm 70 11, gg 71 (.bin .lss (.t 70) (xk .u8 128)), gm 72 71, gq 73 72 false (.mov (.t 11)), gq 74 72 false (.bin .lss (xk .u8 191) (.t 73)), gg 75 (.pick (.t 72) (.k (.bool true)) (.t 74))] (.cond (.t 75) (sr [gg 2 (.mov (xk .i32 65533)), gg 3 (.mov (xk .i64 1))] .ret) .skip)) (.cut (sr [gm 76 8, gg 77 (.bin .leq (.t 76) (xk .i64 3))] (.cond (.t 77) (sr [gm 78 5, gg 79 (.bin .and (.t 78) (xk .u8 15)), gg 80 (.cvi .i32 (.t 79)), gg 81 (.bik .shl .u64 (.t 80) 12), gm 82 10, gg 83 (.bin .and (.t 82) (xk .u8 63)), gg 84 (.cvi .i32 (.t 83)), gg 85 (.bik .shl .u64 (.t 84) 6), gg 86 (.bin .or (.t 81) (.t 85)), gm 87 11, gg 88 (.bin .and (.t 87) (xk .u8 63)), gg 89 (.cvi .i32 (.t 88)), gg 90 (.bin .or (.t 86) (.t 89)), gm 2 90, gg 3 (.mov (xk .i64 3))] .ret) .skip)) (sr [gm 91 0, gg 92 (.si (.t 91) (xk .i64 3)), gm 12 92] (.cut (sr [gm 93 12, gg 94 (.bin .lss (.t 93) (xk .u8 128)), gm 95 94, gq 96 95 false (.mov (.t 12)), gq 97 95 false (.bin .lss (xk .u8 191) (.t 96)), gg 98 (.pick (.t 95) (.k (.bool true)) (.t 97))] (.cond (.t 98) (sr [gg 2 (.mov (xk .i32 65533)), gg 3 (.mov (xk .i64 1))] .ret) .skip)) (sr [gm 99 5, gg 100 (.bin .and (.t 99) (xk .u8 7)), gg 101 (.cvi .i32 (.t 100)), gg 102 (.bik .shl .u64 (.t 101) 18), gm 103 10, gg 104 (.bin .and (.t 103) (xk .u8 63)), gg 105 (.cvi .i32 (.t 104)), gg 106 (.bik .shl .u64 (.t 105) 12), gg 107 (.bin .or (.t 102) (.t 106)), gm 108 11, gg 109 (.bin .and (.t 108) (xk .u8 63)), gg 110 (.cvi .i32 (.t 109)), gg 111 (.bik .shl .u64 (.t 110) 6), gg 112 (.bin .or (.t 107) (.t 111)), gm 113 12, gg 114 (.bin .and (.t 113) (xk .u8 63)), gg 115 (.cvi .i32 (.t 114)), gg 116 (.bin .or (.t 112) (.t 115)), gm 2 116, gg 3 (.mov (xk .i64 4))] .ret)))))))))))))))))) 1 [(.t 2), (.t 3)]) := by kernel_rfl
theorem c137_ : compF Tryz.prog 137 = some (.mk (sr [gg 2 (.mov (.k (.bool false)))] (.cut (sr [gm 17 0, gg 18 (.bin .leq (.t 17) (xk .i32 255))] (.cond (.t 18) (.cut (sr [gm 19 0, gg 20 (.bin .leq (xk .i32 32) (.t 19)), gm 21 20, gq 22 21 true (.mov (.t 0)), gq 23 21 true (.bin .leq (.t 22) (xk .i32 126)), gg 24 (.pick (.t 21) (.t 23) (.k (.bool false)))] (.cond (.t 24) (sr [gg 2 (.mov (.k (.bool true)))] .ret) .skip)) (.cut (sr [gm 25 0, gg 26 (.bin .leq (xk .i32 161) (.t 25)), gm 27 26, gq 28 27 true (.mov (.t 0)), gq 29 27 true (.bin .leq (.t 28) (xk .i32 255)), gg 30 (.pick (.t 27) (.t 29) (.k (.bool false)))] (.cond (.t 30) (sr [gm 31 0, gg 32 (.bin .neq (.t 31) (xk .i32 173)), gm 2 32] .ret) .skip)) (sr [gg 2 (.mov (.k (.bool false)))] .ret))) .skip)) (.cut (sr [gm 33 0, gg 34 (.bin .leq (xk .i32 0) (.t 33)), gm 35 34, gq 36 35 true (.mov (.t 0)), gq 37 35 true (.bin .lss (.t 36) (xk .i32 65536)), gg 38 (.pick (.t 35) (.t 37) (.k (.bool false)))] (.cond (.t 38) (.seq (.drw [(.mk (gm 39 0) 0 true []), (.mk (gg 40 (.cvi .u16 (.t 39))) 1 true []), (.mk (gg 41 (.ld (.k (.pointer (some (Addr.mk 16 0 none)))) none)) 2 true []), (.mk (gg 42 (.ld (.k (.pointer (some (Addr.mk 17 0 none)))) none)) 3 true []), (.mk (gm 3 40) 4 true []), (.mk (gm 4 41) 5 true []), (.mk (gm 5 42) 6 true [])]) (sr [gm 44 4, gm 45 3, gg 46 (.call 144 [(.t 44), (.t 45)]), gm 43 46, gg 47 (.ext (.t 43) 0), gg 48 (.ext (.t 43) 1), gm 6 47, gm 7 48] (.cut (sr [gm 49 6, gm 50 4, gg 51 (.len false (.t 50)), gg 52 (.bin .geq (.t 49) (.t 51)), gm 53 52, gq 54 53 false (.mov (.t 3)), gq 55 53 false (.mov (.t 4)), gq 56 53 false (.mov (.t 6)), gq 57 53 false (.bin .andNot (.t 56) (xk .i64 1)), gq 58 53 false (.ia (.t 55) (.t 57) 1), gq 59 53 false (.ld (.t 58) none), gq 60 53 false (.bin .lss (.t 54) (.t 59)), gg 61 (.pick (.t 53) (.k (.bool true)) (.t 60)), gm 62 61, gq 63 62 false (.mov (.t 4)), gq 64 62 false (.mov (.t 6)), gq 65 62 false (.bin .or (.t 64) (xk .i64 1)), gq 66 62 false (.ia (.t 63) (.t 65) 1), gq 67 62 false (.ld (.t 66) none), gq 68 62 false (.mov (.t 3)), gq 69 62 false (.bin .lss (.t 67) (.t 68)), gg 70 (.pick (.t 62) (.k (.bool true)) (.t 69))] (.cond (.t 70) (sr [gg 2 (.mov (.k (.bool false)))] .ret) .skip)) (sr [gm 72 5, gm 73 3, gg 74 (.call 144 [(.t 72), (.t 73)]), gm 71 74, gg 75 (.ext (.t 71) 0), gg 76 (.ext (.t 71) 1), gm 8 75, gm 9 76] (sr [gm 77 9, gg 78 (.un .not (.t 77)), gm 2 78] .ret))))) .skip)) (.seq (.drw [(.mk (gm 79 0) 0 true []), (.mk (gg 80 (.cvi .u32 (.t 79))) 1 true []), (.mk (gg 81 (.ld (.k (.pointer (some (Addr.mk 18 0 none)))) none)) 2 true []), (.mk (gg 82 (.ld (.k (.pointer (some (Addr.mk 19 0 none)))) none)) 3 true []), (.mk (gm 10 80) 4 true []), (.mk (gm 11 81) 5 true []), (.mk (gm 12 82) 6 true [])]) (sr [gm 84 11, gm 85 10, gg 86 (.call 145 [(.t 84), (.t 85)]), gm 83 86, gg 87 (.ext (.t 83) 0), gg 88 (.ext (.t 83) 1), gm 13 87, gm 14 88] (.cut (sr [gm 89 13, gm 90 11, gg 91 (.len false (.t 90)), gg 92 (.bin .geq (.t 89) (.t 91)), gm 93 92, gq 94 93 false (.mov (.t 10)), gq 95 93 false (.mov (.t 11)), gq 96 93 false (.mov (.t 13)), gq 97 93 false (.bin .andNot (.t 96) (xk .i64 1)), gq 98 93 false (.ia (.t 95) (.t 97) 1), gq 99 93 false (.ld (.t 98) none), gq 100 93 false (.bin .lss (.t 94) (.t 99)), gg 101 (.pick (.t 93) (.k (.bool true)) (.t 100)), gm 102 101, gq 103 102 false (.mov (.t 11)), gq 104 102 false (.mov (.t 13)), gq 105 102 false (.bin .or (.t 104) (xk .i64 1)), gq 106 102 false (.ia (.t 103) (.t 105) 1), gq 107 102 false (.ld (.t 106) none), gq 108 102 false (.mov (.t 10)), gq 109 102 false (.bin .lss (.t 107) (.t 108)), gg 110 (.pick (.t 102) (.k (.bool true)) (.t 109))] (.cond (.t 110) (sr [gg 2 (.mov (.k (.bool false)))] .ret) .skip)) (.cut (sr [gm 111 0, gg 112 (.bin .geq (.t 111) (xk .i32 131072))] (.cond (.t 112) (sr [gg 2 (.mov (.k (.bool true)))] .ret) .skip)) (sr [gm 113 0, gg 114 (.bin .sub (.t 113) (xk .i32 65536)), gm 0 114] (sr [gm 116 12, gm 117 0, gg 118 (.cvi .u16 (.t 117)), gg 119 (.call 144 [(.t 116), (.t 118)]), gm 115 119, gg 120 (.ext (.t 115) 0), gg 121 (.ext (.t 115) 1), gm 15 120, gm 16 121] (sr [gm 122 16, gg 123 (.un .not (.t 122)), gm 2 123] .ret)))))))))) 1 [(.t 2)]) := by kernel_rfl
theorem c139_ : compF Tryz.prog 139 = some (.mk (sr [gg 4 (.mov (.k (.slice none 0 0)))] (.cut (sr [gm 5 1, gg 6 (.cvi .u32 (.t 5)), gg 7 (.bin .leq (.t 6) (xk .u32 127))] (.cond (.t 7) (sr [gm 8 0, gm 9 1, gg 10 (.cvi .u8 (.t 9)), gg 11 (.bsl 5 1 1 [(.int .u8 ((0:Nat):Int))] [(0, (1, (.t 10)))]), gg 12 (.app 5 1 1 (.t 8) (.t 11)), gm 4 12] .ret) .skip)) (sr [gm 13 0, gm 14 1, gg 15 (.call 146 [(.t 13), (.t 14)]), gm 4 15] .ret))) 2 [(.t 4)]) := by kernel_rfl
theorem c140_ : compF Tryz.prog 140 = some (.mk (sr [gg 2 (.mov (.k (.bool false)))] (.cut (.block 0 (sr [gm 4 0, gg 5 (.bin .leq (xk .i32 0) (.t 4)), gm 6 5, gq 7 6 true (.mov (.t 0)), gq 8 6 true (.bin .lss (.t 7) (xk .i32 55296)), gg 9 (.pick (.t 6) (.t 8) (.k (.bool false))), gm 3 9] (.cond (.t 3) (sr [gg 2 (.mov (.k (.bool true)))] .ret) (sr [gm 11 0, gg 12 (.bin .lss (xk .i32 57343) (.t 11)), gm 13 12, gq 14 13 true (.mov (.t 0)), gq 15 13 true (.bin .leq (.t 14) (xk .i32 1114111)), gg 16 (.pick (.t 13) (.t 15) (.k (.bool false))), gm 10 16] (.cond (.t 10) (sr [gg 2 (.mov (.k (.bool true)))] .ret) .skip))))) (sr [gg 2 (.mov (.k (.bool false)))] .ret))) 1 [(.t 2)]) := by kernel_rfl
theorem c144_ : compF Tryz.prog 144 = some (.mk (sr [gg 4 (.mov (xk .i64 0)), gg 5 (.mov (.k (.bool false)))] (sr [gm 10 0, gg 11 (.len false (.t 10)), gm 6 11] (sr [gm 12 6, gg 7 (.mov (xk .i64 0)), gm 8 12] (.cut (.block 0 (.loop (.seq (sr [gm 13 7, gm 14 8, gg 15 (.bin .lss (.t 13) (.t 14))] (.cond (.t 15) .skip (.exit 0))) (.block 1 (sr [gm 16 7, gm 17 8, gm 18 7, gg 19 (.bin .sub (.t 17) (.t 18)), gg 20 (.bik .shr .u64 (.t 19) 1), gg 21 (.bin .add (.t 16) (.t 20)), gm 9 21] (sr [gm 22 0, gm 23 9, gg 24 (.ia (.t 22) (.t 23) 1), gg 25 (.ld (.t 24) none), gm 26 1, gg 27 (.bin .lss (.t 25) (.t 26))] (.cond (.t 27) (.reg [gm 28 9, gg 29 (.bin .add (.t 28) (xk .i64 1)), gm 7 29]) (.reg [gm 30 9, gm 8 30])))))))) (.seq (.drw [(.mk (gm 31 7) 0 true []), (.mk (gm 32 7) 1 true []), (.mk (gm 33 6) 2 true []), (.mk (gg 34 (.bin .lss (.t 32) (.t 33))) 3 true []), (.mk (gm 35 34) 4 true []), (.mk (gq 36 35 true (.mov (.t 0))) 5 true []), (.mk (gq 37 35 true (.mov (.t 7))) 6 true []), (.mk (gq 38 35 true (.ia (.t 36) (.t 37) 1)) 7 true []), (.mk (gq 39 35 true (.ld (.t 38) none)) 8 true []), (.mk (gq 40 35 true (.mov (.t 1))) 9 true []), (.mk (gq 41 35 true (.bin .eql (.t 39) (.t 40))) 10 true []), (.mk (gg 42 (.pick (.t 35) (.t 41) (.k (.bool false)))) 11 true []), (.mk (gm 4 31) 12 true []), (.mk (gm 5 42) 13 true [])]) .ret))))) 2 [(.t 4), (.t 5)]) := by kernel_rfl
theorem c145_ : compF Tryz.prog 145 = some (.mk (sr [gg 4 (.mov (xk .i64 0)), gg 5 (.mov (.k (.bool false)))] (sr [gm 10 0, gg 11 (.len false (.t 10)), gm 6 11] (sr [gm 12 6, gg 7 (.mov (xk .i64 0)), gm 8 12] (.cut (.block 0 (.loop (.seq (sr [gm 13 7, gm 14 8, gg 15 (.bin .lss (.t 13) (.t 14))] (.cond (.t 15) .skip (.exit 0))) (.block 1 (sr [gm 16 7, gm 17 8, gm 18 7, gg 19 (.bin .sub (.t 17) (.t 18)), gg 20 (.bik .shr .u64 (.t 19) 1), gg 21 (.bin .add (.t 16) (.t 20)), gm 9 21] (sr [gm 22 0, gm 23 9, gg 24 (.ia (.t 22) (.t 23) 1), gg 25 (.ld (.t 24) none), gm 26 1, gg 27 (.bin .lss (.t 25) (.t 26))] (.cond (.t 27) (.reg [gm 28 9, gg 29 (.bin .add (.t 28) (xk .i64 1)), gm 7 29]) (.reg [gm 30 9, gm 8 30])))))))) (.seq (.drw [(.mk (gm 31 7) 0 true []), (.mk (gm 32 7) 1 true []), (.mk (gm 33 6) 2 true []), (.mk (gg 34 (.bin .lss (.t 32) (.t 33))) 3 true []), (.mk (gm 35 34) 4 true []), (.mk (gq 36 35 true (.mov (.t 0))) 5 true []), (.mk (gq 37 35 true (.mov (.t 7))) 6 true []), (.mk (gq 38 35 true (.ia (.t 36) (.t 37) 1)) 7 true []), (.mk (gq 39 35 true (.ld (.t 38) none)) 8 true []), (.mk (gq 40 35 true (.mov (.t 1))) 9 true []), (.mk (gq 41 35 true (.bin .eql (.t 39) (.t 40))) 10 true []), (.mk (gg 42 (.pick (.t 35) (.t 41) (.k (.bool false)))) 11 true []), (.mk (gm 4 31) 12 true []), (.mk (gm 5 42) 13 true [])]) .ret))))) 2 [(.t 4), (.t 5)]) := by kernel_rfl
theorem c146_ : compF Tryz.prog 146 = some (.mk (sr [gg 4 (.mov (.k (.slice none 0 0)))] (sr [gm 6 1, gg 7 (.cvi .u32 (.t 6)), gm 5 7] (.block 0 (sr [gm 12 5, gg 13 (.bin .leq (.t 12) (xk .u32 2047)), gm 11 13] (.cond (.t 11) (sr [gm 14 0, gm 15 1, gg 16 (.bik .shr .u64 (.t 15) 6), gg 17 (.cvi .u8 (.t 16)), gg 18 (.bin .or (xk .u8 192) (.t 17)), gm 19 1, gg 20 (.cvi .u8 (.t 19)), gg 21 (.bin .and (.t 20) (xk .u8 63)), gg 22 (.bin .or (xk .u8 128) (.t 21)), gg 23 (.bsl 5 1 2 [(.int .u8 ((0:Nat):Int)), (.int .u8 ((0:Nat):Int))] [(0, (1, (.t 18))), (1, (1, (.t 22)))]), gg 24 (.app 5 1 1 (.t 14) (.t 23)), gm 4 24] .ret) (.cut (sr [gm 26 5, gg 27 (.bin .lss (.t 26) (xk .u32 55296)), gm 25 27] (.cond (.t 25) .skip (.reg [gm 28 5, gg 29 (.bin .lss (xk .u32 57343) (.t 28)), gm 30 29, gq 31 30 true (.mov (.t 5)), gq 32 30 true (.bin .leq (.t 31) (xk .u32 65535)), gg 33 (.pick (.t 30) (.t 32) (.k (.bool false))), gm 25 33]))) (.cond (.t 25) (sr [gm 34 0, gm 35 1, gg 36 (.bik .shr .u64 (.t 35) 12), gg 37 (.cvi .u8 (.t 36)), gg 38 (.bin .or (xk .u8 224) (.t 37)), gm 39 1, gg 40 (.bik .shr .u64 (.t 39) 6), gg 41 (.cvi .u8 (.t 40)), gg 42 (.bin .and (.t 41) (xk .u8 63)), gg 43 (.bin .or (xk .u8 128) (.t 42)), gm 44 1, gg 45 (.cvi .u8 (.t 44)), gg 46 (.bin .and (.t 45) (xk .u8 63)), gg 47 (.bin .or (xk .u8 128) (.t 46)), gg 48 (.bsl 5 1 3 [(.int .u8 ((0:Nat):Int)), (.int .u8 ((0:Nat):Int)), (.int .u8 ((0:Nat):Int))] [(0, (1, (.t 38))), (1, (1, (.t 43))), (2, (1, (.t 47)))]), gg 49 (.app 5 1 1 (.t 34) (.t 48)), gm 4 49] .ret) (sr [gm 51 5, gg 52 (.bin .gtr (.t 51) (xk .u32 65535)), gm 53 52, gq 54 53 true (.mov (.t 5)), gq 55 53 true (.bin .leq (.t 54) (xk .u32 1114111)), gg 56 (.pick (.t 53) (.t 55) (.k (.bool false))), gm 50 56] (.cond (.t 50) (sr [gm 57 0, gm 58 1, gg 59 (.bik .shr .u64 (.t 58) 18), gg 60 (.cvi .u8 (.t 59)), gg 61 (.bin .or (xk .u8 240) (.t 60)), gm 62 1, gg 63 (.bik .shr .u64 (.t 62) 12), gg 64 (.cvi .u8 (.t 63)), gg 65 (.bin .and (.t 64) (xk .u8 63)), gg 66 (.bin .or (xk .u8 128) (.t 65)), gm 67 1, gg 68 (.bik .shr .u64 (.t 67) 6), gg 69 (.cvi .u8 (.t 68)), gg 70 (.bin .and (.t 69) (xk .u8 63)), gg 71 (.bin .or (xk .u8 128) (.t 70)), gm 72 1, gg 73 (.cvi .u8 (.t 72)), gg 74 (.bin .and (.t 73) (xk .u8 63)), gg 75 (.bin .or (xk .u8 128) (.t 74)), gg 76 (.bsl 5 1 4 [(.int .u8 ((0:Nat):Int)), (.int .u8 ((0:Nat):Int)), (.int .u8 ((0:Nat):Int)), (.int .u8 ((0:Nat):Int))] [(0, (1, (.t 61))), (1, (1, (.t 66))), (2, (1, (.t 71))), (3, (1, (.t 75)))]), gg 77 (.app 5 1 1 (.t 57) (.t 76)), gm 4 77] .ret) (sr [gm 8 0, gg 9 (.bsl 5 1 3 [(.int .u8 ((0:Nat):Int)), (.int .u8 ((0:Nat):Int)), (.int .u8 ((0:Nat):Int))] [(0, (1, (xk .u8 239))), (1, (1, (xk .u8 191))), (2, (1, (xk .u8 189)))]), gg 10 (.app 5 1 1 (.t 8) (.t 9)), gm 4 10] .ret)))))))))) 2 [(.t 4)]) := by kernel_rfl
end Go.Proofs.YtokkphocaloelaaGreatDoor

end
