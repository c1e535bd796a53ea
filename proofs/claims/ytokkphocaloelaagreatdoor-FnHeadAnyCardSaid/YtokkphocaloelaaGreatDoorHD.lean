/- Joined: OgI, OgJ, OgK, IrQ, OgM, OgN, OgO, OgP, OgQ, OgR, OgS, OgT, OgU, OgV, OgW, OgX, OgY. -/
import Derived.Test.YtokkphocaloelaaGreatDoorHC
section
namespace Go.Proofs.YtokkphocaloelaaGreatDoor
open Go Go.Vc
set_option maxRecDepth 100000
set_option maxHeartbeats 8000000

def hd0 : Hd := ⟨0, 0, 0, 0, 0, 0, 0, 0, ByteArray.mk #[]⟩
def hdA (b : ByteArray) : Hd := ⟨bt (bytesOf b) 8, bt (bytesOf b) 9, bt (bytesOf b) 18, le (((bytesOf b).take 12).drop 10), le (((bytesOf b).take 18).drop 16), le (((bytesOf b).take 16).drop 12), 0, 0, ByteArray.mk #[]⟩
def hdB (b : ByteArray) : Hd := if bt (bytesOf b) 18 = 0 then hdA b else { hdA b with str := bt (bytesOf b) 19, cou := bt (bytesOf b) 20, mapping := b.extract 21 (21 + bt (bytesOf b) 9) }
def hdR (b : ByteArray) : Hd × Bool × Nat :=
 if b.size < 19 ∨ (bytesOf b).take 8 ≠ opusHead then (hd0, false, 1)
 else if bt (bytesOf b) 18 ≠ 0 ∧ b.size < 21 + bt (bytesOf b) 9 then (hd0, false, if bt (bytesOf b) 18 = 1 ∨ bt (bytesOf b) 18 = 255 then 1 else 2)
 else if (hdB b).text.2 ≠ 1 ∨ (hdB b).text.1 ≠ b ∨ (hdB b).ver ≠ 1 then (hd0, false, 2)
 else (hdB b, true, 1)
theorem headOfW (w0 : World) {b : ByteArray} (hs : b.size ≤ 1099511627776) : CallsA Tryz.prog w0 49 [.c (.val (.string b))] [] fun r H => r = .t [.a ((hdR b).1.cells (.slice none 0 0)), .c (.val (.bool (hdR b).2.1)), .c (.val (.int .i64 ((hdR b).2.2 : Nat)))] ∧ H = [] := by
 have hbl := bytesOf_len b
 obtain ⟨R, hR⟩ : ∃ R, R = hdR b := ⟨_, rfl⟩
 rw [← hR]
 unfold hdR at hR
 refine callsA_of_ev c49_ ?_
 conv => whnf
 refine Or.inl ?_
 conv => whnf
 refine ⟨fun g1 => ?_, fun g1 => ?_⟩
 · have g1 : b.size < 19 := lt_t g1
   rw [if_pos (.inl g1)] at hR
   subst hR
   conv => whnf
   exact Or.inr ⟨[], _, [], ⟨rfl, trivial, rfl⟩, rfl, rfl, rfl⟩
 have g1 : 19 ≤ b.size := lt_f g1
 conv => whnf
 refine ⟨by omega, ?_⟩
 conv => whnf
 refine ⟨fun g2 => ?_, fun g2 => ?_⟩
 · have g2 := strq_f g2
   have g3 : (bytesOf b).take 8 ≠ opusHead := fun h => g2 (bytes_inj (by rw [bytes_ext]; exact h))
   rw [if_pos (.inr g3)] at hR
   subst hR
   conv => whnf
   exact Or.inr ⟨[], _, [], ⟨rfl, trivial, rfl⟩, rfl, rfl, rfl⟩
 have g2 := strq_t g2
 have g3 : (bytesOf b).take 8 = opusHead := by
   have := congrArg bytesOf g2
   rw [bytes_ext] at this
   exact this
 rw [if_neg (by rintro (h | h); exact absurd h (by omega); exact h g3)] at hR
 have hz : ∀ i j, i ≤ j → j ≤ b.size → (b.extract i j).size = j - i := fun i j _ h => by
   rw [ByteArray.size_extract]
   omega
 obtain ⟨y8, h8, hb8, hl8⟩ := bt_str (b := b) (i := 8) (by omega)
 obtain ⟨y9, h9, hb9, hl9⟩ := bt_str (b := b) (i := 9) (by omega)
 obtain ⟨y18, h18, hb18, hl18⟩ := bt_str (b := b) (i := 18) (by omega)
 obtain ⟨e1, f1⟩ := le_ext (b := b) (i := 10) (k := 2) (by omega)
 obtain ⟨e2, f2⟩ := le_ext (b := b) (i := 12) (k := 4) (by omega)
 obtain ⟨e3, f3⟩ := le_ext (b := b) (i := 16) (k := 2) (by omega)
 have f1 : le (((bytesOf b).take 12).drop 10) < 65536 := f1
 have f2 : le (((bytesOf b).take 16).drop 12) < 4294967296 := f2
 have f3 : le (((bytesOf b).take 18).drop 16) < 65536 := f3
 conv => whnf
 refine Or.inr ⟨Unit, fun _ => ⟨[(0, .o (.c (.val (.string b)))), (2, .o (.c (.ptr 0 0))), (5, .o (.c (.ptr 1 0)))], [.cells 25 (hd0.cells (.slice none 0 0)), .cells 25 ((hdA b).cells (.slice none 0 0))]⟩, ?_, fun _ => ?_⟩
 · conv => whnf
   refine ⟨y8, h8, ?_⟩
   rw [hb8]
   conv => whnf
   refine ⟨y9, h9, ?_⟩
   rw [hb9]
   conv => whnf
   refine ⟨by omega, ?_⟩
   conv => whnf
   refine ⟨by omega, ?_⟩
   conv => whnf
   refine ⟨by omega, ?_⟩
   conv => whnf
   refine ⟨y18, h18, ?_⟩
   rw [hb18]
   conv => whnf
   have c1 := leastOfW w0 (b := b.extract 10 12) (by rw [hz _ _ (by omega) (by omega)]; omega)
   have c2 := leastOfW w0 (b := b.extract 12 16) (by rw [hz _ _ (by omega) (by omega)]; omega)
   have c3 := leastOfW w0 (b := b.extract 16 18) (by rw [hz _ _ (by omega) (by omega)]; omega)
   have hx : some (Blk.cells 25 [CV.val (.int .i64 (IntKind.i64.wrap ((bt (bytesOf b) 8 : Nat) : Int))), CV.val (.int .i64 (IntKind.i64.wrap ((bt (bytesOf b) 9 : Nat) : Int))), CV.val (.int .i64 (IntKind.i64.wrap ((bt (bytesOf b) 18 : Nat) : Int))), CV.val (.int .i64 (IntKind.i64.wrap ((le (bytesOf (b.extract 10 12)) : Nat) : Int))), CV.val (.int .i64 (IntKind.i64.wrap ((le (bytesOf (b.extract 16 18)) : Nat) : Int))), CV.val (.int .u32 (IntKind.u32.wrap ((le (bytesOf (b.extract 12 16)) : Nat) : Int))), CV.val (.int .i64 0), CV.val (.int .i64 0), CV.val (.string (ByteArray.mk #[])), CV.val (.slice none 0 0)]) = some (Blk.cells 25 ((hdA b).cells (.slice none 0 0))) := by
     rw [e1, e2, e3, nwrapi (n := bt (bytesOf b) 8) (by omega), nwrapi (n := bt (bytesOf b) 9) (by omega), nwrapi (n := bt (bytesOf b) 18) (by omega), nwrapi (by omega), nwrapi (by omega), nwrap32 f2]
     rfl
   refine ⟨?_, ?_⟩
   · conv => whnf
     refine cL0 (c1) ?_
     rintro _ _ ⟨rfl, rfl⟩
     refine ⟨trivial, ?_⟩
     conv => whnf
     refine ⟨?_, ?_⟩
     · conv => whnf
       refine cL0 (c2) ?_
       rintro _ _ ⟨rfl, rfl⟩
       refine ⟨trivial, ?_⟩
       conv => whnf
       refine ⟨?_, ?_⟩
       · conv => whnf
         refine cL0 (c3) ?_
         rintro _ _ ⟨rfl, rfl⟩
         refine ⟨trivial, ?_⟩
         conv => whnf
         refine ⟨trivial, ?_⟩
         conv => whnf
         refine ⟨trivial, ?_⟩
         conv => whnf
         exact ⟨(), [0, 1], ⟨rfl, ⟨rfl, rfl, hx, rfl, trivial⟩, rfl⟩, rfl, rfl, rfl, trivial⟩
       · conv => whnf
         refine ⟨trivial, ?_⟩
         conv => whnf
         refine cL0 (c3) ?_
         rintro _ _ ⟨rfl, rfl⟩
         refine ⟨trivial, ?_⟩
         conv => whnf
         refine ⟨trivial, ?_⟩
         conv => whnf
         exact ⟨(), [0, 1], ⟨rfl, ⟨rfl, rfl, hx, rfl, trivial⟩, rfl⟩, rfl, rfl, rfl, trivial⟩
     · conv => whnf
       refine ⟨trivial, ?_⟩
       conv => whnf
       refine cL0 (c2) ?_
       rintro _ _ ⟨rfl, rfl⟩
       refine ⟨trivial, ?_⟩
       conv => whnf
       refine cL0 (c3) ?_
       rintro _ _ ⟨rfl, rfl⟩
       refine ⟨trivial, ?_⟩
       conv => whnf
       refine ⟨trivial, ?_⟩
       conv => whnf
       exact ⟨(), [0, 1], ⟨rfl, ⟨rfl, rfl, hx, rfl, trivial⟩, rfl⟩, rfl, rfl, rfl, trivial⟩
   · conv => whnf
     refine ⟨trivial, ?_⟩
     conv => whnf
     refine cL0 (c1) ?_
     rintro _ _ ⟨rfl, rfl⟩
     refine ⟨trivial, ?_⟩
     conv => whnf
     refine cL0 (c2) ?_
     rintro _ _ ⟨rfl, rfl⟩
     refine ⟨trivial, ?_⟩
     conv => whnf
     refine cL0 (c3) ?_
     rintro _ _ ⟨rfl, rfl⟩
     refine ⟨trivial, ?_⟩
     conv => whnf
     refine ⟨trivial, ?_⟩
     conv => whnf
     exact ⟨(), [0, 1], ⟨rfl, ⟨rfl, rfl, hx, rfl, trivial⟩, rfl⟩, rfl, rfl, rfl, trivial⟩
 have hAmap : (hdA b).map = ((bt (bytesOf b) 18 : Nat) : Int) := rfl
 have hAch : (hdA b).ch = ((bt (bytesOf b) 9 : Nat) : Int) := rfl
 refine Or.inr ⟨PLift (¬ (bt (bytesOf b) 18 ≠ 0 ∧ b.size < 21 + bt (bytesOf b) 9)), fun _ => ⟨[(0, .o (.c (.val (.string b)))), (2, .o (.c (.ptr 0 0))), (5, .o (.c (.ptr 1 0)))], [.cells 25 (hd0.cells (.slice none 0 0)), .cells 25 ((hdB b).cells (.slice none 0 0))]⟩, ?_, fun ⟨hn⟩ => ?_⟩
 · conv => whnf
   refine ⟨fun g4 => ?_, fun g4 => ?_⟩
   · have g4 := of_bne (b := 0) g4
     conv => whnf
     refine Or.inr ⟨PLift (21 + bt (bytesOf b) 9 ≤ b.size), fun _ => ⟨[(0, .o (.c (.val (.string b)))), (2, .o (.c (.ptr 0 0))), (5, .o (.c (.ptr 1 0)))], [.cells 25 (hd0.cells (.slice none 0 0)), .cells 25 ((hdA b).cells (.slice none 0 0))]⟩, ?_, fun ⟨g5⟩ => ?_⟩
     · conv => whnf
       rw [hAch, nadd 21 (bt (bytesOf b) 9), nwrapi (n := 21 + bt (bytesOf b) 9) (by omega)]
       refine ⟨fun g5 => ?_, fun g5 => ?_⟩
       · have g5 : b.size < 21 + bt (bytesOf b) 9 := lt_t g5
         rw [if_pos ⟨g4, g5⟩] at hR
         conv => whnf
         refine ⟨fun g6 => ?_, fun g6 => ?_⟩
         · have g6 : bt (bytesOf b) 18 = 1 := by
             have := eq_of_beq g6
             omega
           rw [if_pos (.inl g6)] at hR
           subst hR
           conv => whnf
           refine cL0 (told2W w0 true) ?_
           rintro _ _ ⟨rfl, rfl⟩
           conv => whnf
           exact Or.inr ⟨[], _, [], ⟨rfl, trivial, rfl⟩, rfl, rfl, rfl⟩
         · have g6 : bt (bytesOf b) 18 ≠ 1 := beq_f (a := bt (bytesOf b) 18) (b := 1) g6
           conv => whnf
           by_cases g7 : bt (bytesOf b) 18 = 255
           · rw [if_pos (.inr g7)] at hR
             subst hR
             have hd : ((hdA b).map == ((255 : Nat) : Int)) = true := by rw [hAmap, g7]; rfl
             rw [hd]
             refine cL0 (told2W w0 true) ?_
             rintro _ _ ⟨rfl, rfl⟩
             conv => whnf
             exact Or.inr ⟨[], _, [], ⟨rfl, trivial, rfl⟩, rfl, rfl, rfl⟩
           · rw [if_neg (by rintro (h | h); exact g6 h; exact g7 h)] at hR
             subst hR
             have hd : ((hdA b).map == ((255 : Nat) : Int)) = false := by
               rw [hAmap, beq_eq_false_iff_ne]
               omega
             rw [hd]
             refine cL0 (told2W w0 false) ?_
             rintro _ _ ⟨rfl, rfl⟩
             conv => whnf
             exact Or.inr ⟨[], _, [], ⟨rfl, trivial, rfl⟩, rfl, rfl, rfl⟩
       · have g5 : 21 + bt (bytesOf b) 9 ≤ b.size := lt_f g5
         conv => whnf
         exact ⟨⟨g5⟩, [0, 1], ⟨rfl, ⟨rfl, rfl, rfl, rfl, trivial⟩, rfl⟩, rfl, rfl, rfl, trivial⟩
     obtain ⟨y19, h19, hb19, hl19⟩ := bt_str (b := b) (i := 19) (by omega)
     obtain ⟨y20, h20, hb20, hl20⟩ := bt_str (b := b) (i := 20) (by omega)
     conv => whnf
     refine ⟨y19, h19, ?_⟩
     rw [hb19]
     conv => whnf
     refine ⟨y20, h20, ?_⟩
     rw [hb20]
     conv => whnf
     rw [hAch, nadd 21 (bt (bytesOf b) 9), nwrapi (n := 21 + bt (bytesOf b) 9) (by omega), nwrapi (n := bt (bytesOf b) 19) (by omega), nwrapi (n := bt (bytesOf b) 20) (by omega)]
     refine ⟨⟨by omega, by omega, by omega⟩, ?_⟩
     conv => whnf
     refine ⟨trivial, ?_⟩
     conv => whnf
     refine ⟨trivial, ?_⟩
     conv => whnf
     refine ⟨trivial, ?_⟩
     conv => whnf
     refine ⟨⟨fun h => absurd h.2 (by omega)⟩, [0, 1], ⟨rfl, ⟨rfl, rfl, ?_, rfl, trivial⟩, rfl⟩, rfl, rfl, rfl, trivial⟩
     unfold hdB
     rw [if_neg g4]
     rfl
   · have g4 := of_bne_f (b := 0) g4
     conv => whnf
     refine ⟨⟨fun h => h.1 g4⟩, [0, 1], ⟨rfl, ⟨rfl, rfl, ?_, rfl, trivial⟩, rfl⟩, rfl, rfl, rfl, trivial⟩
     unfold hdB
     rw [if_pos g4]
     rfl
 rw [if_neg hn] at hR
 have hmz : (hdB b).mapping.size ≤ 2147483647 := by
   unfold hdB
   split
   · exact Nat.zero_le _
   · show (b.extract 21 (21 + bt (bytesOf b) 9)).size ≤ _
     rw [ByteArray.size_extract]
     omega
 have hra : (hdB b).rate < 4294967296 := by
   unfold hdB
   split
   · exact f2
   · exact f2
 have hin : ∀ x ∈ [(hdB b).ver, (hdB b).ch, (hdB b).map, (hdB b).skip, (hdB b).gain, (hdB b).str, (hdB b).cou], -9223372036854775808 ≤ x ∧ x < 9223372036854775808 := by
   have h0 : ∀ n : Nat, n < 9223372036854775808 → -9223372036854775808 ≤ (n : Int) ∧ (n : Int) < 9223372036854775808 := fun n h => by omega
   by_cases g4 : bt (bytesOf b) 18 = 0
   · rw [show hdB b = hdA b from if_pos g4]
     intro x hx
     simp only [hdA, List.mem_cons, List.not_mem_nil, or_false] at hx
     rcases hx with rfl | rfl | rfl | rfl | rfl | rfl | rfl <;> omega
   · rw [show hdB b = { hdA b with str := bt (bytesOf b) 19, cou := bt (bytesOf b) 20, mapping := b.extract 21 (21 + bt (bytesOf b) 9) } from if_neg g4]
     obtain ⟨y19, h19, hb19, hl19⟩ := bt_str (b := b) (i := 19) (by omega)
     obtain ⟨y20, h20, hb20, hl20⟩ := bt_str (b := b) (i := 20) (by omega)
     intro x hx
     simp only [hdA, List.mem_cons, List.not_mem_nil, or_false] at hx
     rcases hx with rfl | rfl | rfl | rfl | rfl | rfl | rfl <;> omega
 have hver : ((hdB b).ver != ((1 : Nat) : Int)) = decide ((hdB b).ver ≠ 1) := by
   rw [Bool.eq_iff_iff]
   simp
 conv => whnf
 refine cL0 (headTextW w0 (hdB b) hra hin hmz) ?_
 rintro _ _ ⟨rfl, rfl⟩
 conv => whnf
 have htm : (hdB b).textM 0 = (hdB b).text := if_neg (by omega)
 rw [htm]
 refine Or.inl ?_
 conv => whnf
 refine ⟨fun g6 => ?_, fun g6 => ?_⟩
 · have g6 := of_bne (b := 1) g6
   rw [if_pos (.inl g6)] at hR
   subst hR
   conv => whnf
   exact Or.inr ⟨[], _, [], ⟨rfl, trivial, rfl⟩, rfl, rfl, rfl⟩
 have g6 := of_bne_f (b := 1) g6
 conv => whnf
 refine ⟨fun g7 => ?_, fun g7 => ?_⟩
 · have g7 := strq_f g7
   rw [if_pos (.inr (.inl g7))] at hR
   subst hR
   conv => whnf
   exact Or.inr ⟨[], _, [], ⟨rfl, trivial, rfl⟩, rfl, rfl, rfl⟩
 have g7 := strq_t g7
 conv => whnf
 rw [hver]
 refine ⟨fun g8 => ?_, fun g8 => ?_⟩
 · have g8 := of_decide_eq_true g8
   rw [if_pos (.inr (.inr g8))] at hR
   subst hR
   conv => whnf
   exact Or.inr ⟨[], _, [], ⟨rfl, trivial, rfl⟩, rfl, rfl, rfl⟩
 have g8 := of_decide_eq_false g8
 rw [if_neg (by rintro (h | h | h); exact h g6; exact h g7; exact g8 h)] at hR
 subst hR
 conv => whnf
 exact Or.inr ⟨[], _, [], ⟨rfl, trivial, rfl⟩, rfl, rfl, rfl⟩
end Go.Proofs.YtokkphocaloelaaGreatDoor

end
section
namespace Go.Proofs.YtokkphocaloelaaGreatDoor
open Go Go.Vc
set_option maxRecDepth 100000
set_option maxHeartbeats 8000000

def psz : List ByteArray → Nat
 | [] => 0
 | x :: r => x.size + psz r
theorem psz_add (a b : List ByteArray) : psz (a ++ b) = psz a + psz b := by
 induction a with
 | nil => simp [psz]
 | cons x r ih => rw [List.cons_append, psz, psz, ih]; omega
theorem psz_mem {l : List ByteArray} {x : ByteArray} (h : x ∈ l) : x.size ≤ psz l := by
 induction l with
 | nil => cases h
 | cons y r ih =>
   rw [psz]
   rcases List.mem_cons.1 h with rfl | h
   · omega
   · have := ih h
     omega
theorem prS_psz (b : ByteArray) (n : Nat) : ∀ i, 27 + n + psz (prS b n i).2.2.1 ≤ (prS b n i).2.1
 | 0 => Nat.le_refl _
 | i + 1 => by
   have h1 := prS_psz b n i
   have h2 := prS_from b n i
   simp only [prS]
   split
   · show 27 + n + psz ((prS b n i).2.2.1 ++ [_]) ≤ (prS b n i).1 + _
     rw [psz_add]
     show 27 + n + (_ + ((b.extract _ _).size + 0)) ≤ _
     rw [ByteArray.size_extract]
     omega
   · exact h1
def Pg.wt (p : Pg) : Nat := 27 + p.parts.length + psz p.parts
def Pg.fits (p : Pg) : Prop := p.ser < 4294967296 ∧ p.seq < 4294967296 ∧ p.gran < 18446744073709551616 ∧ 0 ≤ p.flags ∧ p.flags < 256
theorem bt_lt {L : List Int} (h : Byt L) (i : Nat) : bt L i < 256 := by
 unfold bt
 rw [List.getD_eq_getElem?_getD]
 cases h1 : L[i]? with
 | none => decide
 | some x =>
   have := h x (List.mem_of_getElem? h1)
   rw [Option.getD_some]
   omega
theorem pageP_wt {b : ByteArray} {p : Pg} {k : Nat} (h : pageP b = some (p, k)) : p.wt ≤ k ∧ p.fits := by
 unfold pageP at h
 simp only at h
 split at h
 · cases h
 · rename_i hn
   have h1 := prS_psz b (bt (bytesOf b) 26) (bt (bytesOf b) 26)
   have h2 := prS_from b (bt (bytesOf b) 26) (bt (bytesOf b) 26)
   have h3 := prS_len b (bt (bytesOf b) 26) (bt (bytesOf b) 26)
   have hs : ¬ b.size < 27 := fun h => hn (.inl h)
   have h5 := bt_lt (byt_bytes b) 5
   obtain ⟨_, f1⟩ := le_ext (b := b) (i := 14) (k := 4) (by omega)
   obtain ⟨_, f2⟩ := le_ext (b := b) (i := 18) (k := 4) (by omega)
   obtain ⟨_, f3⟩ := le_ext (b := b) (i := 6) (k := 8) (by omega)
   cases h
   refine ⟨?_, f1, f2, f3, Int.natCast_nonneg _, by show ((bt (bytesOf b) 5 : Nat) : Int) < 256; omega⟩
   show 27 + (prS b (bt (bytesOf b) 26) (bt (bytesOf b) 26)).2.2.1.length + psz (prS b (bt (bytesOf b) 26) (bt (bytesOf b) 26)).2.2.1 ≤ _
   omega
def wts : List Pg → Nat
 | [] => 0
 | p :: r => p.wt + wts r
theorem wts_add (a b : List Pg) : wts (a ++ b) = wts a + wts b := by
 induction a with
 | nil => simp [wts]
 | cons x r ih => rw [List.cons_append, wts, wts, ih]; omega
def hrR (b : ByteArray) : Hd × Bool × Nat := match pageP b with
 | none => (hd0, false, if b.size < 27 ∨ (bytesOf b).take 5 ≠ oggS then 1 else 2)
 | some (p, _) => if p.flags ≠ 2 ∨ p.parts.length ≠ 1 ∨ p.more = true then (hd0, false, 2) else hdR (p.parts.headD (ByteArray.mk #[]))
theorem headReadW (w0 : World) {b : ByteArray} (hs : b.size ≤ 1099511627776) : CallsA Tryz.prog w0 23 [.c (.val (.string b))] [] fun r H => r = .t [.a ((hrR b).1.cells (.slice none 0 0)), .c (.val (.bool (hrR b).2.1)), .c (.val (.int .i64 ((hrR b).2.2 : Nat)))] ∧ H = [] := by
 have hbl := bytesOf_len b
 have hpr := pageReadW w0 hs
 obtain ⟨R, hR⟩ : ∃ R, R = hrR b := ⟨_, rfl⟩
 rw [← hR]
 unfold hrR at hR
 refine callsA_of_ev c23_ ?_
 conv => whnf
 cases hp : pageP b with
 | none =>
   rw [hp] at hpr hR
   simp only at hR
   refine cL0 (hpr) ?_
   rintro _ _ ⟨rfl, rfl⟩
   conv => whnf
   refine Or.inl ?_
   conv => whnf
   refine ⟨fun _ => ?_, fun g => zT g⟩
   conv => whnf
   refine ⟨fun g1 => ?_, fun g1 => ?_⟩
   · have g1 : b.size < 27 := lt_t g1
     rw [if_pos (.inl g1)] at hR
     subst hR
     conv => whnf
     refine cL0 (told2W w0 true) ?_
     rintro _ _ ⟨rfl, rfl⟩
     conv => whnf
     exact Or.inr ⟨[], _, [], ⟨rfl, trivial, rfl⟩, rfl, rfl, rfl⟩
   · have g1 : 27 ≤ b.size := lt_f g1
     conv => whnf
     refine ⟨by omega, ?_⟩
     conv => whnf
     by_cases g2 : b.extract 0 5 = ByteArray.mk #[79, 103, 103, 83, 0]
     · have hd : (!((b.extract 0 5).toList == (ByteArray.mk #[79, 103, 103, 83, 0]).toList)) = false := by rw [g2]; simp
       have g3 : (bytesOf b).take 5 = oggS := by
         have := congrArg bytesOf g2
         rw [bytes_ext] at this
         exact this
       rw [if_neg (by rintro (h | h); exact absurd h (by omega); exact h g3)] at hR
       subst hR
       refine cL0 (by
         have := told2W w0 (!((b.extract 0 5).toList == (ByteArray.mk #[79, 103, 103, 83, 0]).toList))
         exact this) ?_
       rw [hd]
       rintro _ _ ⟨rfl, rfl⟩
       conv => whnf
       exact Or.inr ⟨[], _, [], ⟨rfl, trivial, rfl⟩, rfl, rfl, rfl⟩
     · have hd : (!((b.extract 0 5).toList == (ByteArray.mk #[79, 103, 103, 83, 0]).toList)) = true := by
         cases h : (!((b.extract 0 5).toList == (ByteArray.mk #[79, 103, 103, 83, 0]).toList)) with
         | true => rfl
         | false => exact absurd (strq_t h) g2
       have g3 : (bytesOf b).take 5 ≠ oggS := fun h => g2 (bytes_inj (by rw [bytes_ext]; exact h))
       rw [if_pos (.inr g3)] at hR
       subst hR
       refine cL0 (by
         have := told2W w0 (!((b.extract 0 5).toList == (ByteArray.mk #[79, 103, 103, 83, 0]).toList))
         exact this) ?_
       rw [hd]
       rintro _ _ ⟨rfl, rfl⟩
       conv => whnf
       exact Or.inr ⟨[], _, [], ⟨rfl, trivial, rfl⟩, rfl, rfl, rfl⟩
 | some x =>
   obtain ⟨p, k⟩ := x
   have hk := pageP_facts hp
   have hwt := (pageP_wt hp).1
   rw [hp] at hpr hR
   simp only at hR
   obtain ⟨a, q, c, d, parts, m⟩ := p
   simp only [Pg.wt] at hwt hR
   cases parts with
   | nil =>
     rw [if_pos (.inr (.inl (by decide)))] at hR
     subst hR
     refine cL0 (hpr) ?_
     rintro _ _ ⟨rfl, rfl⟩
     conv => whnf
     refine Or.inl ?_
     conv => whnf
     refine ⟨fun g => zF g, fun _ => ?_⟩
     conv => whnf
     refine Or.inl ?_
     conv => whnf
     refine ⟨fun g1 => ?_, fun g1 => ?_⟩
     · conv => whnf
       exact Or.inr ⟨[], _, [], ⟨rfl, trivial, rfl⟩, rfl, rfl, rfl⟩
     · conv => whnf
       refine ⟨fun _ => ?_, fun g => zT g⟩
       conv => whnf
       exact Or.inr ⟨[], _, [], ⟨rfl, trivial, rfl⟩, rfl, rfl, rfl⟩
   | cons x xr =>
     have hx : x.size ≤ psz (x :: xr) := psz_mem (List.mem_cons_self ..)
     refine cL0 (hpr) ?_
     rintro _ _ ⟨rfl, rfl⟩
     conv => whnf
     refine Or.inl ?_
     conv => whnf
     refine ⟨fun g => zF g, fun _ => ?_⟩
     conv => whnf
     refine Or.inl ?_
     conv => whnf
     refine ⟨fun g1 => ?_, fun g1 => ?_⟩
     · have g1 : d ≠ 2 := fun h => by rw [h] at g1; exact Bool.noConfusion g1
       rw [if_pos (.inl g1)] at hR
       subst hR
       conv => whnf
       exact Or.inr ⟨[], _, [], ⟨rfl, trivial, rfl⟩, rfl, rfl, rfl⟩
     have k1 : d = 2 := by
       have h : (d != ((2 : Nat) : Int)) = false := g1
       simpa using h
     conv => whnf
     refine ⟨fun g2 => ?_, fun g2 => ?_⟩
     · have g2 : (x :: xr).length ≠ 1 := of_bne (a := (x :: xr).length) (b := 1) g2
       rw [if_pos (.inr (.inl g2))] at hR
       subst hR
       conv => whnf
       exact Or.inr ⟨[], _, [], ⟨rfl, trivial, rfl⟩, rfl, rfl, rfl⟩
     have g2 : xr.length + 1 = 1 := of_bne_f (b := 1) g2
     obtain rfl : xr = [] := List.eq_nil_of_length_eq_zero (by omega)
     cases m with
     | true =>
       rw [if_pos (.inr (.inr rfl))] at hR
       subst hR
       conv => whnf
       refine ⟨fun _ => ?_, fun g => zT g⟩
       conv => whnf
       exact Or.inr ⟨[], _, [], ⟨rfl, trivial, rfl⟩, rfl, rfl, rfl⟩
     | false =>
       rw [if_neg (by rintro (h | h | h); exact h k1; exact h rfl; exact Bool.noConfusion h)] at hR
       conv => whnf
       refine ⟨fun g => zF g, fun _ => ?_⟩
       conv => whnf
       refine ⟨⟨Int.le_refl _, show (0 : Int) < ((1 : Nat) : Int) by decide⟩, ?_⟩
       conv => whnf
       refine ⟨x, ?_⟩
       conv => whnf
       refine ⟨rfl, ?_⟩
       conv => whnf
       refine cL0 (headOfW w0 (b := x) (by omega)) ?_
       rintro _ _ ⟨rfl, rfl⟩
       conv => whnf
       subst hR
       exact Or.inr ⟨[], _, [], ⟨rfl, trivial, rfl⟩, rfl, rfl, rfl⟩
end Go.Proofs.YtokkphocaloelaaGreatDoor

end
section
namespace Go.Proofs.YtokkphocaloelaaGreatDoor
open Go Go.Vc
set_option maxRecDepth 100000
set_option maxHeartbeats 8000000

structure PkS where
 op : ByteArray
 go : Bool
 l : List (ByteArray × Nat)
end Go.Proofs.YtokkphocaloelaaGreatDoor

end
section
namespace Go.Proofs.YtokkphocaloelaaGreatDoor
open Go Go.Vc
set_option maxRecDepth 100000
theorem c29_ : compF Tryz.prog 29 = some (.mk (sr [gg 2 (.mov (.k (.pointer none))), gg 3 (.mov (.k (.pointer none))), gg 4 (.mov (.k .nilIface))] (sr [gm 9 0, gg 10 (.s2b 5 (.t 9)), gg 11 (.bld [(.slice none 0 0)] [(0, (1, (.t 10)))]), gg 12 (.box 120 (.t 11)), gg 13 (.mki 118 (.t 12)), gg 14 (.call 52 [(.t 13)]), gm 8 14, gg 15 (.ext (.t 8) 0), gg 16 (.ext (.t 8) 1), gg 17 (.ext (.t 8) 2), gm 5 15, gm 6 16, gm 7 17] (.cut (sr [gm 18 7, gg 19 (.inl true (.t 18))] (.cond (.t 19) (sr [gm 20 7, gg 2 (.mov (.k (.pointer none))), gg 3 (.mov (.k (.pointer none))), gm 4 20] .ret) .skip)) (sr [gm 21 5, gm 22 6, gm 2 21, gm 3 22, gg 4 (.mov (.k .nilIface))] .ret)))) 1 [(.t 2), (.t 3), (.t 4)]) := by kernel_rfl
theorem c30_ : compF Tryz.prog 30 = some (.mk (sr [gg 2 (.mov (.k (.slice none 0 0))), gg 3 (.mov (.k (.pointer none))), gg 4 (.mov (.k .nilIface))] (sr [gm 12 0, gg 13 (.call 53 [(.t 12)]), gm 5 13] (.cut (sr [gm 14 5, gg 15 (.nil (.t 14)), gg 16 (.ffa (.t 15) 0), gg 17 (.ld (.t 16) none), gg 18 (.len false (.t 17)), gg 19 (.bin .gtr (.t 18) (xk .i64 0))] (.cond (.t 19) (sr [gm 20 5, gg 21 (.nil (.t 20)), gg 22 (.ffa (.t 21) 0), gg 23 (.ld (.t 22) none), gg 24 (.ia (.t 23) (xk .i64 0) 2), gg 25 (.ld (.t 24) (some 2)), gg 6 (.alc 127 [(.slice none 0 0), (.pointer none)]), (G.mk none none (.st (.t 6) (.t 25) 2))] (sr [gm 26 5, gm 27 5, gg 28 (.nil (.t 27)), gg 29 (.ffa (.t 28) 0), gg 30 (.ld (.t 29) none), gg 31 (.slq (.t 30) (some (xk .i64 1)) none 2), gg 32 (.nil (.t 26)), gg 33 (.ffa (.t 32) 0), (G.mk none none (.st (.t 33) (.t 31) 1))] (.seq (.drw [(.mk (gg 34 (.ffa (.t 6) 0)) 0 true []), (.mk (gg 35 (.ld (.t 34) none)) 1 true []), (.mk (gg 36 (.ffa (.t 6) 1)) 2 true []), (.mk (gg 37 (.ld (.t 36) none)) 3 true []), (.mk (gm 2 35) 4 true []), (.mk (gm 3 37) 5 true []), (.mk (gg 4 (.mov (.k .nilIface))) 6 true [])]) .ret))) .skip)) (.block 0 (.loop (.block 1 (sr [gm 39 0, gg 40 (.call 54 [(.t 39)]), gm 38 40, gg 41 (.ext (.t 38) 0), gg 42 (.ext (.t 38) 1), gg 43 (.ext (.t 38) 2), gg 44 (.ext (.t 38) 3), gm 7 41, gm 8 42, gm 9 43, gm 10 44] (.cut (sr [gm 45 10, gg 46 (.inl true (.t 45))] (.cond (.t 46) (.cut (sr [gm 47 10, gg 48 (.ld (.k (.pointer (some (Addr.mk 0 0 none)))) none), gg 49 (.ieq 71 false (.t 47) (.t 48)), gm 50 49, gq 51 50 true (.mov (.t 5)), gq 52 50 true (.nil (.t 51)), gq 53 50 true (.ffa (.t 52) 1), gq 54 50 true (.ld (.t 53) none), gq 55 50 true (.len false (.t 54)), gq 56 50 true (.bin .neq (.t 55) (xk .i64 0)), gg 57 (.pick (.t 50) (.t 56) (.k (.bool false)))] (.cond (.t 57) (.seq (.drw [(.mk (gg 58 (.ld (.k (.pointer (some (Addr.mk 1 0 none)))) none)) 0 true []), (.mk (gg 2 (.mov (.k (.slice none 0 0)))) 1 true []), (.mk (gg 3 (.mov (.k (.pointer none)))) 2 true []), (.mk (gm 4 58) 3 true [])]) .ret) .skip)) (sr [gm 59 10, gg 2 (.mov (.k (.slice none 0 0))), gg 3 (.mov (.k (.pointer none))), gm 4 59] .ret)) .skip)) (.cut (sr [gm 60 0, gm 61 7, gm 62 8, gm 63 9, gg 64 (.call 55 [(.t 60), (.t 61), (.t 62), (.t 63)]), gm 10 64] (sr [gm 65 10, gg 66 (.inl true (.t 65))] (.cond (.t 66) (sr [gm 67 10, gg 2 (.mov (.k (.slice none 0 0))), gg 3 (.mov (.k (.pointer none))), gm 4 67] .ret) .skip))) (sr [gm 68 5, gg 69 (.nil (.t 68)), gg 70 (.ffa (.t 69) 0), gg 71 (.ld (.t 70) none), gg 72 (.len false (.t 71)), gg 73 (.bin .gtr (.t 72) (xk .i64 0))] (.cond (.t 73) (sr [gm 74 5, gg 75 (.nil (.t 74)), gg 76 (.ffa (.t 75) 0), gg 77 (.ld (.t 76) none), gg 78 (.ia (.t 77) (xk .i64 0) 2), gg 79 (.ld (.t 78) (some 2)), gg 11 (.alc 127 [(.slice none 0 0), (.pointer none)]), (G.mk none none (.st (.t 11) (.t 79) 2))] (sr [gm 80 5, gm 81 5, gg 82 (.nil (.t 81)), gg 83 (.ffa (.t 82) 0), gg 84 (.ld (.t 83) none), gg 85 (.slq (.t 84) (some (xk .i64 1)) none 2), gg 86 (.nil (.t 80)), gg 87 (.ffa (.t 86) 0), (G.mk none none (.st (.t 87) (.t 85) 1))] (.seq (.drw [(.mk (gg 88 (.ffa (.t 11) 0)) 0 true []), (.mk (gg 89 (.ld (.t 88) none)) 1 true []), (.mk (gg 90 (.ffa (.t 11) 1)) 2 true []), (.mk (gg 91 (.ld (.t 90) none)) 3 true []), (.mk (gm 2 89) 4 true []), (.mk (gm 3 91) 5 true []), (.mk (gg 4 (.mov (.k .nilIface))) 6 true [])]) .ret))) .skip))))))))))) 1 [(.t 2), (.t 3), (.t 4)]) := by kernel_rfl
theorem c52_ : compF Tryz.prog 52 = some (.mk (sr [gg 2 (.mov (.k (.pointer none))), gg 3 (.mov (.k (.pointer none))), gg 4 (.mov (.k .nilIface))] (sr [gm 5 0, gg 6 (.call 90 [(.t 5), (.k (.bool true))]), gg 7 (.ext (.t 6) 0), gg 8 (.ext (.t 6) 1), gg 9 (.ext (.t 6) 2), gm 2 7, gm 3 8, gm 4 9] .ret)) 1 [(.t 2), (.t 3), (.t 4)]) := by kernel_rfl
theorem c53_ : compF Tryz.prog 53 = some (.mk (sr [gg 2 (.mov (.k (.pointer none)))] (.cut (sr [gm 3 0, gg 4 (.nil (.t 3)), gg 5 (.ffa (.t 4) 4), gg 6 (.ld (.t 5) none), gg 7 (.pnl false (.t 6))] (.cond (.t 7) (.reg [gm 8 0, gg 9 (.bld [(.slice none 0 0), (.slice none 0 0), (.bool false), (.int .u32 ((0:Nat):Int)), (.bool false)] []), gg 10 (.box 125 (.t 9)), gg 11 (.nil (.t 8)), gg 12 (.ffa (.t 11) 4), (G.mk none none (.st (.t 12) (.t 10) 1))]) .skip)) (sr [gm 13 0, gg 14 (.nil (.t 13)), gg 15 (.ffa (.t 14) 4), gg 16 (.ld (.t 15) none), gm 2 16] .ret))) 1 [(.t 2)]) := by kernel_rfl
theorem c54_ : compF Tryz.prog 54 = some (.mk (sr [gg 2 (.mov (.k (.slice none 0 0))), gg 3 (.mov (.k (.slice none 0 0))), gg 4 (.mov (.k (.pointer none))), gg 5 (.mov (.k .nilIface))] (sr [gg 15 (.mks 5 1 1 [(.int .u8 ((0:Nat):Int))] (xk .i64 27) (xk .i64 27)), gm 6 15] (sr [gm 17 0, gg 18 (.nil (.t 17)), gg 19 (.ffa (.t 18) 0), gg 20 (.ld (.t 19) none), gm 21 6, gg 22 (.call 91 [(.t 20), (.t 21)]), gm 16 22, gg 23 (.ext (.t 16) 0), gg 24 (.ext (.t 16) 1), gm 7 23, gm 8 24] (.cut (sr [gm 25 8, gg 26 (.inl true (.t 25))] (.cond (.t 26) (sr [gm 27 8, gg 2 (.mov (.k (.slice none 0 0))), gg 3 (.mov (.k (.slice none 0 0))), gg 4 (.mov (.k (.pointer none))), gm 5 27] .ret) (sr [gm 28 7, gm 29 6, gg 30 (.len false (.t 29)), gg 31 (.bin .lss (.t 28) (.t 30))] (.cond (.t 31) (.seq (.drw [(.mk (gg 32 (.ld (.k (.pointer (some (Addr.mk 2 0 none)))) none)) 0 true []), (.mk (gg 2 (.mov (.k (.slice none 0 0)))) 1 true []), (.mk (gg 3 (.mov (.k (.slice none 0 0)))) 2 true []), (.mk (gg 4 (.mov (.k (.pointer none)))) 3 true []), (.mk (gm 5 32) 4 true [])]) .ret) .skip)))) (.seq (.drw [(.mk (gm 33 6) 0 true []), (.mk (gg 34 (.ia (.t 33) (xk .i64 0) 1)) 1 true []), (.mk (gg 35 (.ld (.t 34) none)) 2 true []), (.mk (gm 36 6) 3 true []), (.mk (gg 37 (.ia (.t 36) (xk .i64 1) 1)) 4 true []), (.mk (gg 38 (.ld (.t 37) none)) 5 true []), (.mk (gm 39 6) 6 true []), (.mk (gg 40 (.ia (.t 39) (xk .i64 2) 1)) 7 true []), (.mk (gg 41 (.ld (.t 40) none)) 8 true []), (.mk (gm 42 6) 9 true []), (.mk (gg 43 (.ia (.t 42) (xk .i64 3) 1)) 10 true []), (.mk (gg 44 (.ld (.t 43) none)) 11 true []), (.mk (gg 45 (.bld [(.int .u8 ((0:Nat):Int)), (.int .u8 ((0:Nat):Int)), (.int .u8 ((0:Nat):Int)), (.int .u8 ((0:Nat):Int))] [(0, (1, (.t 35))), (1, (1, (.t 38))), (2, (1, (.t 41))), (3, (1, (.t 44)))])) 12 true []), (.mk (gg 46 (.bld [(.int .u64 ((0:Nat):Int)), (.int .u8 ((0:Nat):Int)), (.int .u8 ((0:Nat):Int)), (.int .u8 ((0:Nat):Int)), (.int .u8 ((0:Nat):Int)), (.int .u8 ((0:Nat):Int)), (.int .u8 ((0:Nat):Int)), (.int .u32 ((0:Nat):Int)), (.int .u32 ((0:Nat):Int)), (.int .u8 ((0:Nat):Int))] [(1, (4, (.t 45)))])) 13 true []), (.mk (gg 47 (.box 80 (.t 46))) 14 false []), (.mk (gm 9 47) 15 true [])]) (sr [gm 48 9, gm 49 6, gg 50 (.ia (.t 49) (xk .i64 4) 1), gg 51 (.ld (.t 50) none), gg 52 (.nil (.t 48)), gg 53 (.ffa (.t 52) 5), (G.mk none none (.st (.t 53) (.t 51) 1))] (sr [gm 54 9, gm 55 6, gg 56 (.ia (.t 55) (xk .i64 5) 1), gg 57 (.ld (.t 56) none), gg 58 (.nil (.t 54)), gg 59 (.ffa (.t 58) 6), (G.mk none none (.st (.t 59) (.t 57) 1))] (.seq (.drw [(.mk (gm 60 9) 0 true []), (.mk (gg 61 (.ld (.k (.pointer (some (Addr.mk 3 0 none)))) (some 0))) 1 true []), (.mk (gm 62 6) 2 true []), (.mk (gg 63 (.slq (.t 62) (some (xk .i64 6)) (some (xk .i64 14)) 1)) 3 true []), (.mk (gg 64 (.call 92 [(.t 61), (.t 63)])) 4 false []), (.mk (gg 65 (.nil (.t 60))) 5 true []), (.mk (gg 66 (.ffa (.t 65) 0)) 6 true []), (.mk (G.mk none none (.st (.t 66) (.t 64) 1)) 7 false [])]) (.seq (.drw [(.mk (gm 67 9) 0 true []), (.mk (gg 68 (.ld (.k (.pointer (some (Addr.mk 3 0 none)))) (some 0))) 1 true []), (.mk (gm 69 6) 2 true []), (.mk (gg 70 (.slq (.t 69) (some (xk .i64 14)) (some (xk .i64 18)) 1)) 3 true []), (.mk (gg 71 (.call 93 [(.t 68), (.t 70)])) 4 false []), (.mk (gg 72 (.nil (.t 67))) 5 true []), (.mk (gg 73 (.ffa (.t 72) 7)) 6 true []), (.mk (G.mk none none (.st (.t 73) (.t 71) 1)) 7 false [])]) (.seq (.drw [(.mk (gm 74 9) 0 true []), (.mk (gg 75 (.ld (.k (.pointer (some (Addr.mk 3 0 none)))) (some 0))) 1 true []), (.mk (gm 76 6) 2 true []), (.mk (gg 77 (.slq (.t 76) (some (xk .i64 18)) (some (xk .i64 22)) 1)) 3 true []), (.mk (gg 78 (.call 93 [(.t 75), (.t 77)])) 4 false []), (.mk (gg 79 (.nil (.t 74))) 5 true []), (.mk (gg 80 (.ffa (.t 79) 8)) 6 true []), (.mk (G.mk none none (.st (.t 80) (.t 78) 1)) 7 false [])]) (sr [gm 81 9, gm 82 6, gg 83 (.ia (.t 82) (xk .i64 26) 1), gg 84 (.ld (.t 83) none), gg 85 (.nil (.t 81)), gg 86 (.ffa (.t 85) 9), (G.mk none none (.st (.t 86) (.t 84) 1))] (sr [gm 87 9, gg 88 (.nil (.t 87)), gg 89 (.ffa (.t 88) 9), gg 90 (.ld (.t 89) none), gg 91 (.mks 5 1 1 [(.int .u8 ((0:Nat):Int))] (.t 90) (.t 90)), gm 10 91] (.cut (sr [gm 93 0, gg 94 (.nil (.t 93)), gg 95 (.ffa (.t 94) 0), gg 96 (.ld (.t 95) none), gm 97 10, gg 98 (.call 91 [(.t 96), (.t 97)]), gm 92 98, gg 99 (.ext (.t 92) 0), gg 100 (.ext (.t 92) 1), gm 8 100] (sr [gm 101 8, gg 102 (.inl true (.t 101))] (.cond (.t 102) (sr [gm 103 8, gg 2 (.mov (.k (.slice none 0 0))), gg 3 (.mov (.k (.slice none 0 0))), gg 4 (.mov (.k (.pointer none))), gm 5 103] .ret) .skip))) (sr [gg 104 (.bs0 74 1), gm 11 104] (.cut (sr [gm 105 10, gg 106 (.len false (.t 105)), gg 107 (.mov (xk .i64 0))] (.block 0 (.loop (sr [gg 108 (.bin .lss (.t 107) (.t 106))] (.seq (.cond (.t 108) .skip (.exit 0)) (.cut (.block 1 (sr [gg 109 (.ia (.t 105) (.t 107) 1), gg 110 (.ld (.t 109) none), gm 13 110] (sr [gm 111 13, gg 112 (.cvi .i64 (.t 111)), gg 113 (.mks 5 1 1 [(.int .u8 ((0:Nat):Int))] (.t 112) (.t 112)), gm 14 113] (.cut (sr [gm 115 0, gg 116 (.nil (.t 115)), gg 117 (.ffa (.t 116) 0), gg 118 (.ld (.t 117) none), gm 119 14, gg 120 (.call 91 [(.t 118), (.t 119)]), gm 114 120, gg 121 (.ext (.t 114) 0), gg 122 (.ext (.t 114) 1), gm 8 122] (sr [gm 123 8, gg 124 (.inl true (.t 123))] (.cond (.t 124) (sr [gm 125 8, gg 2 (.mov (.k (.slice none 0 0))), gg 3 (.mov (.k (.slice none 0 0))), gg 4 (.mov (.k (.pointer none))), gm 5 125] .ret) .skip))) (.reg [gm 126 11, gm 127 14, gg 128 (.bsl 74 1 1 [(.slice none 0 0)] [(0, (1, (.t 127)))]), gg 129 (.apx 74 1 24 (.t 126) (.t 128)), gm 11 129]))))) (.reg [gg 130 (.bin .add (.t 107) (xk .i64 1)), gm 107 130]))))))) (.cut (sr [gm 131 0, gg 132 (.nil (.t 131)), gg 133 (.ffa (.t 132) 3), gg 134 (.ld (.t 133) none)] (.cond (.t 134) (sr [gm 135 0, gm 136 6, gm 137 10, gm 138 11, gg 139 (.call 94 [(.t 135), (.t 136), (.t 137), (.t 138)]), gm 8 139] (sr [gm 140 8, gg 141 (.inl true (.t 140))] (.cond (.t 141) (sr [gm 142 8, gg 2 (.mov (.k (.slice none 0 0))), gg 3 (.mov (.k (.slice none 0 0))), gg 4 (.mov (.k (.pointer none))), gm 5 142] .ret) .skip))) .skip)) (sr [gm 143 11, gm 144 10, gm 145 9, gm 2 143, gm 3 144, gm 4 145, gg 5 (.mov (.k .nilIface))] .ret))))))))))))))))) 1 [(.t 2), (.t 3), (.t 4), (.t 5)]) := by kernel_rfl
theorem c55_ : compF Tryz.prog 55 = some (.mk (sr [gg 8 (.mov (.k .nilIface))] (sr [gm 14 0, gg 15 (.call 53 [(.t 14)]), gm 9 15] (.cut (sr [gm 16 0, gm 17 3, gg 18 (.call 95 [(.t 16), (.t 17)]), gm 10 18] (sr [gm 19 10, gg 20 (.inl true (.t 19))] (.cond (.t 20) (sr [gm 21 10, gm 8 21] .ret) .skip))) (.cut (sr [gm 22 1, gg 23 (.len false (.t 22)), gg 24 (.mov (xk .i64 0))] (.block 0 (.loop (sr [gg 25 (.bin .lss (.t 24) (.t 23))] (.seq (.cond (.t 25) .skip (.exit 0)) (.cut (.block 1 (sr [gm 26 24, gg 27 (.ia (.t 22) (.t 24) 1), gg 28 (.ld (.t 27) none), gm 11 26, gm 12 28] (sr [gm 29 2, gm 30 11, gg 31 (.ia (.t 29) (.t 30) 1), gg 32 (.ld (.t 31) none), gm 13 32] (.cut (sr [gm 33 9, gg 34 (.nil (.t 33)), gg 35 (.ffa (.t 34) 2), gg 36 (.ld (.t 35) none)] (.cond (.t 36) (sr [gm 37 9, gm 38 13, gg 39 (.call 96 [(.t 37), (.t 38)])] (.exit 1)) .skip)) (sr [gm 40 9, gm 41 9, gg 42 (.nil (.t 41)), gg 43 (.ffa (.t 42) 1), gg 44 (.ld (.t 43) none), gm 45 12, gg 46 (.app 5 1 1 (.t 44) (.t 45)), gg 47 (.nil (.t 40)), gg 48 (.ffa (.t 47) 1), (G.mk none none (.st (.t 48) (.t 46) 1))] (.cut (sr [gm 49 13, gg 50 (.bin .eql (.t 49) (xk .u8 255))] (.cond (.t 50) (.exit 1) .skip)) (sr [gm 51 0, gm 52 3, gm 53 9, gg 54 (.nil (.t 53)), gg 55 (.ffa (.t 54) 1), gg 56 (.ld (.t 55) none), gg 57 (.call 97 [(.t 51), (.t 52), (.t 56)])] (.reg [gm 58 9, gg 59 (.nil (.t 58)), gg 60 (.ffa (.t 59) 1), (G.mk none none (.st (.t 60) (.k (.slice none 0 0)) 1))])))))))) (.reg [gg 61 (.bin .add (.t 24) (xk .i64 1)), gm 24 61]))))))) (sr [gm 62 0, gm 63 3, gg 64 (.call 85 [(.t 62), (.t 63)])] (sr [gg 8 (.mov (.k .nilIface))] .ret)))))) 4 [(.t 8)]) := by kernel_rfl
theorem c85_ : compF Tryz.prog 85 = some (.mk (.cut (sr [gm 5 1, gg 6 (.nil (.t 5)), gg 7 (.ffa (.t 6) 9), gg 8 (.ld (.t 7) none), gg 9 (.bin .eql (.t 8) (xk .u8 0))] (.cond (.t 9) .ret .skip)) (sr [gm 10 0, gg 11 (.call 53 [(.t 10)]), gm 4 11] (sr [gm 12 4, gm 13 1, gg 14 (.nil (.t 13)), gg 15 (.ffa (.t 14) 8), gg 16 (.ld (.t 15) none), gg 17 (.nil (.t 12)), gg 18 (.ffa (.t 17) 3), (G.mk none none (.st (.t 18) (.t 16) 1))] (.reg [gm 19 4, gg 20 (.nil (.t 19)), gg 21 (.ffa (.t 20) 4), (G.mk none none (.st (.t 21) (.k (.bool true)) 1))])))) 2 []) := by kernel_rfl
theorem c90_ : compF Tryz.prog 90 = some (.mk (sr [gg 4 (.mov (.k (.pointer none))), gg 5 (.mov (.k (.pointer none))), gg 6 (.mov (.k .nilIface))] (.cut (sr [gm 10 0, gg 11 (.inl false (.t 10))] (.cond (.t 11) (.seq (.drw [(.mk (gg 12 (.ld (.k (.pointer (some (Addr.mk 4 0 none)))) none)) 0 true []), (.mk (gg 4 (.mov (.k (.pointer none)))) 1 true []), (.mk (gg 5 (.mov (.k (.pointer none)))) 2 true []), (.mk (gm 6 12) 3 true [])]) .ret) .skip)) (sr [gm 13 0, gg 14 (.call 119 []), gm 15 1, gg 16 (.bld [(.slice none 0 0), (.slice none 0 0), (.bool false), (.int .u32 ((0:Nat):Int)), (.bool false)] []), gg 17 (.box 125 (.t 16)), gg 18 (.bld [.nilIface, (.int .i64 ((0:Nat):Int)), (.pointer none), (.bool false), (.pointer none), (.pointer none)] [(0, (1, (.t 13))), (2, (1, (.t 14))), (3, (1, (.t 15))), (4, (1, (.t 17)))]), gg 19 (.box 162 (.t 18)), gm 7 19] (sr [gm 21 7, gg 22 (.call 120 [(.t 21)]), gm 20 22, gg 23 (.ext (.t 20) 0), gg 24 (.ext (.t 20) 1), gm 8 23, gm 9 24] (.cut (sr [gm 25 9, gg 26 (.inl true (.t 25))] (.cond (.t 26) (sr [gm 27 9, gg 4 (.mov (.k (.pointer none))), gg 5 (.mov (.k (.pointer none))), gm 6 27] .ret) .skip)) (sr [gm 28 7, gm 29 8, gm 4 28, gm 5 29, gg 6 (.mov (.k .nilIface))] .ret)))))) 2 [(.t 4), (.t 5), (.t 6)]) := by kernel_rfl
theorem c91_ : compF Tryz.prog 91 = some (.mk (sr [gg 4 (.mov (xk .i64 0)), gg 5 (.mov (.k .nilIface))] (sr [gm 6 0, gm 7 1, gm 8 1, gg 9 (.len false (.t 8)), gg 10 (.call 121 [(.t 6), (.t 7), (.t 9)]), gg 11 (.ext (.t 10) 0), gg 12 (.ext (.t 10) 1), gm 4 11, gm 5 12] .ret)) 2 [(.t 4), (.t 5)]) := by kernel_rfl
theorem c92_ : compF Tryz.prog 92 = some (.mk (sr [gg 2 (.box 172 (.t 0)), gg 4 (.mov (xk .u64 0))] (sr [gm 5 1, gg 6 (.ia (.t 5) (xk .i64 7) 1), gg 7 (.ld (.t 6) none)] (.seq (.drw [(.mk (gm 8 1) 0 true []), (.mk (gg 9 (.ia (.t 8) (xk .i64 0) 1)) 1 true []), (.mk (gg 10 (.ld (.t 9) none)) 2 true []), (.mk (gg 11 (.cvi .u64 (.t 10))) 3 true []), (.mk (gm 12 1) 4 true []), (.mk (gg 13 (.ia (.t 12) (xk .i64 1) 1)) 5 true []), (.mk (gg 14 (.ld (.t 13) none)) 6 true []), (.mk (gg 15 (.cvi .u64 (.t 14))) 7 true []), (.mk (gg 16 (.bik .shl .u64 (.t 15) 8)) 8 true []), (.mk (gg 17 (.bin .or (.t 11) (.t 16))) 9 true []), (.mk (gm 18 1) 10 true []), (.mk (gg 19 (.ia (.t 18) (xk .i64 2) 1)) 11 true []), (.mk (gg 20 (.ld (.t 19) none)) 12 true []), (.mk (gg 21 (.cvi .u64 (.t 20))) 13 true []), (.mk (gg 22 (.bik .shl .u64 (.t 21) 16)) 14 true []), (.mk (gg 23 (.bin .or (.t 17) (.t 22))) 15 true []), (.mk (gm 24 1) 16 true []), (.mk (gg 25 (.ia (.t 24) (xk .i64 3) 1)) 17 true []), (.mk (gg 26 (.ld (.t 25) none)) 18 true []), (.mk (gg 27 (.cvi .u64 (.t 26))) 19 true []), (.mk (gg 28 (.bik .shl .u64 (.t 27) 24)) 20 true []), (.mk (gg 29 (.bin .or (.t 23) (.t 28))) 21 true []), (.mk (gm 30 1) 22 true []), (.mk (gg 31 (.ia (.t 30) (xk .i64 4) 1)) 23 true []), (.mk (gg 32 (.ld (.t 31) none)) 24 true []), (.mk (gg 33 (.cvi .u64 (.t 32))) 25 true []), (.mk (gg 34 (.bik .shl .u64 (.t 33) 32)) 26 true []), (.mk (gg 35 (.bin .or (.t 29) (.t 34))) 27 true []), (.mk (gm 36 1) 28 true []), (.mk (gg 37 (.ia (.t 36) (xk .i64 5) 1)) 29 true []), (.mk (gg 38 (.ld (.t 37) none)) 30 true []), (.mk (gg 39 (.cvi .u64 (.t 38))) 31 true []), (.mk (gg 40 (.bik .shl .u64 (.t 39) 40)) 32 true []), (.mk (gg 41 (.bin .or (.t 35) (.t 40))) 33 true []), (.mk (gm 42 1) 34 true []), (.mk (gg 43 (.ia (.t 42) (xk .i64 6) 1)) 35 true []), (.mk (gg 44 (.ld (.t 43) none)) 36 true []), (.mk (gg 45 (.cvi .u64 (.t 44))) 37 true []), (.mk (gg 46 (.bik .shl .u64 (.t 45) 48)) 38 true []), (.mk (gg 47 (.bin .or (.t 41) (.t 46))) 39 true []), (.mk (gm 48 1) 40 true []), (.mk (gg 49 (.ia (.t 48) (xk .i64 7) 1)) 41 true []), (.mk (gg 50 (.ld (.t 49) none)) 42 true []), (.mk (gg 51 (.cvi .u64 (.t 50))) 43 true []), (.mk (gg 52 (.bik .shl .u64 (.t 51) 56)) 44 true []), (.mk (gg 53 (.bin .or (.t 47) (.t 52))) 45 true []), (.mk (gm 4 53) 46 true [])]) .ret))) 2 [(.t 4)]) := by kernel_rfl
theorem c93_ : compF Tryz.prog 93 = some (.mk (sr [gg 2 (.box 172 (.t 0)), gg 4 (.mov (xk .u32 0))] (sr [gm 5 1, gg 6 (.ia (.t 5) (xk .i64 3) 1), gg 7 (.ld (.t 6) none)] (.seq (.drw [(.mk (gm 8 1) 0 true []), (.mk (gg 9 (.ia (.t 8) (xk .i64 0) 1)) 1 true []), (.mk (gg 10 (.ld (.t 9) none)) 2 true []), (.mk (gg 11 (.cvi .u32 (.t 10))) 3 true []), (.mk (gm 12 1) 4 true []), (.mk (gg 13 (.ia (.t 12) (xk .i64 1) 1)) 5 true []), (.mk (gg 14 (.ld (.t 13) none)) 6 true []), (.mk (gg 15 (.cvi .u32 (.t 14))) 7 true []), (.mk (gg 16 (.bik .shl .u64 (.t 15) 8)) 8 true []), (.mk (gg 17 (.bin .or (.t 11) (.t 16))) 9 true []), (.mk (gm 18 1) 10 true []), (.mk (gg 19 (.ia (.t 18) (xk .i64 2) 1)) 11 true []), (.mk (gg 20 (.ld (.t 19) none)) 12 true []), (.mk (gg 21 (.cvi .u32 (.t 20))) 13 true []), (.mk (gg 22 (.bik .shl .u64 (.t 21) 16)) 14 true []), (.mk (gg 23 (.bin .or (.t 17) (.t 22))) 15 true []), (.mk (gm 24 1) 16 true []), (.mk (gg 25 (.ia (.t 24) (xk .i64 3) 1)) 17 true []), (.mk (gg 26 (.ld (.t 25) none)) 18 true []), (.mk (gg 27 (.cvi .u32 (.t 26))) 19 true []), (.mk (gg 28 (.bik .shl .u64 (.t 27) 24)) 20 true []), (.mk (gg 29 (.bin .or (.t 23) (.t 28))) 21 true []), (.mk (gm 4 29) 22 true [])]) .ret))) 2 [(.t 4)]) := by kernel_rfl
theorem c94_ : compF Tryz.prog 94 = some (.mk (sr [gg 4 (.box 68 (.t 0)), gg 8 (.mov (.k .nilIface))] (sr [gg 9 (.alc 22 [(.int .u32 ((0:Nat):Int))])] (sr [gg 16 (.mkf 122 [(.t 9), (.t 4)]), gm 10 16] (.cut (sr [gm 17 1, gg 18 (.len false (.t 17)), gg 19 (.mov (xk .i64 0))] (.block 0 (.loop (sr [gg 20 (.bin .lss (.t 19) (.t 18))] (.seq (.cond (.t 20) .skip (.exit 0)) (.cut (.block 1 (sr [gm 21 19, gm 11 21] (.cut (sr [gm 22 11, gg 23 (.bin .geq (.t 22) (xk .i64 22)), gm 24 23, gq 25 24 true (.mov (.t 11)), gq 26 24 true (.bin .lss (.t 25) (xk .i64 26)), gg 27 (.pick (.t 24) (.t 26) (.k (.bool false)))] (.cond (.t 27) (sr [gm 28 10, gg 29 (.clc (.t 28) [(xk .u8 0)])] (.exit 1)) .skip)) (.reg [gm 30 10, gm 31 1, gm 32 11, gg 33 (.ia (.t 31) (.t 32) 1), gg 34 (.ld (.t 33) none), gg 35 (.clc (.t 30) [(.t 34)])])))) (.reg [gg 36 (.bin .add (.t 19) (xk .i64 1)), gm 19 36]))))))) (.cut (sr [gm 37 2, gg 38 (.len false (.t 37)), gg 39 (.mov (xk .i64 0))] (.block 2 (.loop (sr [gg 40 (.bin .lss (.t 39) (.t 38))] (.seq (.cond (.t 40) .skip (.exit 2)) (.seq (.block 3 (sr [gg 41 (.ia (.t 37) (.t 39) 1), gg 42 (.ld (.t 41) none), gm 13 42] (.reg [gm 43 10, gm 44 13, gg 45 (.clc (.t 43) [(.t 44)])]))) (.reg [gg 46 (.bin .add (.t 39) (xk .i64 1)), gm 39 46]))))))) (.cut (sr [gm 47 3, gg 48 (.len false (.t 47)), gg 49 (.mov (xk .i64 0))] (.block 4 (.loop (sr [gg 50 (.bin .lss (.t 49) (.t 48))] (.seq (.cond (.t 50) .skip (.exit 4)) (.cut (.block 5 (sr [gm 51 49, gm 14 51] (sr [gm 52 3, gm 53 14, gg 54 (.ia (.t 52) (.t 53) 1), gg 55 (.ld (.t 54) none), gg 56 (.len false (.t 55)), gg 57 (.mov (xk .i64 0))] (.block 6 (.loop (sr [gg 58 (.bin .lss (.t 57) (.t 56))] (.seq (.cond (.t 58) .skip (.exit 6)) (.seq (.block 7 (sr [gm 59 57, gm 15 59] (.reg [gm 60 10, gm 61 3, gm 62 14, gg 63 (.ia (.t 61) (.t 62) 1), gg 64 (.ld (.t 63) none), gm 65 15, gg 66 (.ia (.t 64) (.t 65) 1), gg 67 (.ld (.t 66) none), gg 68 (.clc (.t 60) [(.t 67)])]))) (.reg [gg 69 (.bin .add (.t 57) (xk .i64 1)), gm 57 69]))))))))) (.reg [gg 70 (.bin .add (.t 49) (xk .i64 1)), gm 49 70]))))))) (.cut (.seq (.drw [(.mk (gg 71 (.ld (.k (.pointer (some (Addr.mk 3 0 none)))) (some 0))) 0 true []), (.mk (gm 72 1) 1 true []), (.mk (gg 73 (.slq (.t 72) (some (xk .i64 22)) (some (xk .i64 26)) 1)) 2 true []), (.mk (gg 75 (.ld (.t 9) none)) 4 true []), (.mk (gg 74 (.call 93 [(.t 71), (.t 73)])) 3 false [4]), (.mk (gg 76 (.bin .neq (.t 74) (.t 75))) 5 true [])]) (.cond (.t 76) (sr [gg 77 (.ld (.k (.pointer (some (Addr.mk 5 0 none)))) none), gm 8 77] .ret) .skip)) (sr [gg 8 (.mov (.k .nilIface))] .ret)))))))) 4 [(.t 8)]) := by kernel_rfl
theorem c95_ : compF Tryz.prog 95 = some (.mk (sr [gg 4 (.mov (.k .nilIface))] (sr [gm 8 0, gg 9 (.call 53 [(.t 8)]), gm 5 9] (sr [gm 10 1, gg 11 (.nil (.t 10)), gg 12 (.ffa (.t 11) 6), gg 13 (.ld (.t 12) none), gg 14 (.bin .and (.t 13) (xk .u8 1)), gg 15 (.bin .neq (.t 14) (xk .u8 0)), gm 6 15] (.seq (.drw [(.mk (gm 16 5) 0 true []), (.mk (gg 17 (.nil (.t 16))) 1 true []), (.mk (gg 18 (.ffa (.t 17) 4)) 2 true []), (.mk (gg 19 (.ld (.t 18) none)) 3 true []), (.mk (gg 20 (.un .not (.t 19))) 4 true []), (.mk (gm 21 20) 5 true []), (.mk (gq 22 21 false (.mov (.t 1))) 6 true []), (.mk (gq 23 21 false (.nil (.t 22))) 7 true []), (.mk (gq 24 21 false (.ffa (.t 23) 8)) 8 true []), (.mk (gq 25 21 false (.ld (.t 24) none)) 9 true []), (.mk (gq 26 21 false (.mov (.t 5))) 10 true []), (.mk (gq 27 21 false (.nil (.t 26))) 11 true []), (.mk (gq 28 21 false (.ffa (.t 27) 3)) 12 true []), (.mk (gq 29 21 false (.ld (.t 28) none)) 13 true []), (.mk (gq 30 21 false (.bin .add (.t 29) (xk .u32 1))) 14 true []), (.mk (gq 31 21 false (.bin .eql (.t 25) (.t 30))) 15 true []), (.mk (gg 32 (.pick (.t 21) (.k (.bool true)) (.t 31))) 16 true []), (.mk (gm 7 32) 17 true [])]) (.cut (sr [gm 33 5, gg 34 (.nil (.t 33)), gg 35 (.ffa (.t 34) 2), gg 36 (.ld (.t 35) none), gm 37 36, gq 38 37 true (.mov (.t 6)), gq 39 37 true (.un .not (.t 38)), gg 40 (.pick (.t 37) (.t 39) (.k (.bool false)))] (.cond (.t 40) (.reg [gm 41 5, gg 42 (.nil (.t 41)), gg 43 (.ffa (.t 42) 2), (G.mk none none (.st (.t 43) (.k (.bool false)) 1))]) .skip)) (.cut (sr [gm 44 5, gg 45 (.nil (.t 44)), gg 46 (.ffa (.t 45) 1), gg 47 (.ld (.t 46) none), gg 48 (.len false (.t 47)), gg 49 (.bin .neq (.t 48) (xk .i64 0))] (.cond (.t 49) (.cut (sr [gm 50 6, gg 51 (.un .not (.t 50)), gm 52 51, gq 53 52 false (.mov (.t 7)), gq 54 52 false (.un .not (.t 53)), gg 55 (.pick (.t 52) (.k (.bool true)) (.t 54))] (.cond (.t 55) (sr [gg 56 (.ld (.k (.pointer (some (Addr.mk 1 0 none)))) none), gm 4 56] .ret) .skip)) (sr [gg 4 (.mov (.k .nilIface))] .ret)) .skip)) (.cut (sr [gm 57 6] (.cond (.t 57) (.reg [gm 58 5, gg 59 (.nil (.t 58)), gg 60 (.ffa (.t 59) 2), (G.mk none none (.st (.t 60) (.k (.bool true)) 1))]) .skip)) (sr [gg 4 (.mov (.k .nilIface))] .ret)))))))) 2 [(.t 4)]) := by kernel_rfl
theorem c97_ : compF Tryz.prog 97 = some (.mk (sr [gm 7 1, gg 8 (.nil (.t 7)), gg 9 (.ld (.t 8) (some 10)), gg 6 (.alc 80 [(.int .u64 ((0:Nat):Int)), (.int .u8 ((0:Nat):Int)), (.int .u8 ((0:Nat):Int)), (.int .u8 ((0:Nat):Int)), (.int .u8 ((0:Nat):Int)), (.int .u8 ((0:Nat):Int)), (.int .u8 ((0:Nat):Int)), (.int .u32 ((0:Nat):Int)), (.int .u32 ((0:Nat):Int)), (.int .u8 ((0:Nat):Int))]), (G.mk none none (.st (.t 6) (.t 9) 10))] (.drw [(.mk (gm 10 0) 0 true []), (.mk (gm 12 0) 2 true []), (.mk (gm 17 2) 7 true []), (.mk (gg 11 (.call 53 [(.t 10)])) 1 false []), (.mk (gg 13 (.call 53 [(.t 12)])) 3 false []), (.mk (gg 14 (.nil (.t 13))) 4 true []), (.mk (gg 15 (.ffa (.t 14) 0)) 5 true []), (.mk (gg 16 (.ld (.t 15) none)) 6 true []), (.mk (gg 18 (.app 5 1 1 (.k (.slice none 0 0)) (.t 17))) 8 false [6]), (.mk (gg 19 (.bld [(.slice none 0 0), (.pointer none)] [(0, (1, (.t 18))), (1, (1, (.t 6)))])) 9 true []), (.mk (gg 20 (.bsl 127 2 1 [(.slice none 0 0), (.pointer none)] [(0, (2, (.t 19)))])) 10 false [6]), (.mk (gg 21 (.apx 127 2 32 (.t 16) (.t 20))) 11 false []), (.mk (gg 22 (.nil (.t 11))) 12 true []), (.mk (gg 23 (.ffa (.t 22) 0)) 13 true []), (.mk (G.mk none none (.st (.t 23) (.t 21) 1)) 14 false [])])) 3 []) := by kernel_rfl
theorem c119_ : compF Tryz.prog 119 = some (.mk (sr [gg 0 (.mov (.k (.pointer none)))] (sr [gg 1 (.ala 208 [(.int .u32 ((0:Nat):Int)), (.int .u32 ((0:Nat):Int)), (.int .u32 ((0:Nat):Int)), (.int .u32 ((0:Nat):Int)), (.int .u32 ((0:Nat):Int)), (.int .u32 ((0:Nat):Int)), (.int .u32 ((0:Nat):Int)), (.int .u32 ((0:Nat):Int)), (.int .u32 ((0:Nat):Int)), (.int .u32 ((0:Nat):Int)), (.int .u32 ((0:Nat):Int)), (.int .u32 ((0:Nat):Int)), (.int .u32 ((0:Nat):Int)), (.int .u32 ((0:Nat):Int)), (.int .u32 ((0:Nat):Int)), (.int .u32 ((0:Nat):Int)), (.int .u32 ((0:Nat):Int)), (.int .u32 ((0:Nat):Int)), (.int .u32 ((0:Nat):Int)), (.int .u32 ((0:Nat):Int)), (.int .u32 ((0:Nat):Int)), (.int .u32 ((0:Nat):Int)), (.int .u32 ((0:Nat):Int)), (.int .u32 ((0:Nat):Int)), (.int .u32 ((0:Nat):Int)), (.int .u32 ((0:Nat):Int)), (.int .u32 ((0:Nat):Int)), (.int .u32 ((0:Nat):Int)), (.int .u32 ((0:Nat):Int)), (.int .u32 ((0:Nat):Int)), (.int .u32 ((0:Nat):Int)), (.int .u32 ((0:Nat):Int)), (.int .u32 ((0:Nat):Int)), (.int .u32 ((0:Nat):Int)), (.int .u32 ((0:Nat):Int)), (.int .u32 ((0:Nat):Int)), (.int .u32 ((0:Nat):Int)), (.int .u32 ((0:Nat):Int)), (.int .u32 ((0:Nat):Int)), (.int .u32 ((0:Nat):Int)), (.int .u32 ((0:Nat):Int)), (.int .u32 ((0:Nat):Int)), (.int .u32 ((0:Nat):Int)), (.int .u32 ((0:Nat):Int)), (.int .u32 ((0:Nat):Int)), (.int .u32 ((0:Nat):Int)), (.int .u32 ((0:Nat):Int)), (.int .u32 ((0:Nat):Int)), (.int .u32 ((0:Nat):Int)), (.int .u32 ((0:Nat):Int)), (.int .u32 ((0:Nat):Int)), (.int .u32 ((0:Nat):Int)), (.int .u32 ((0:Nat):Int)), (.int .u32 ((0:Nat):Int)), (.int .u32 ((0:Nat):Int)), (.int .u32 ((0:Nat):Int)), (.int .u32 ((0:Nat):Int)), (.int .u32 ((0:Nat):Int)), (.int .u32 ((0:Nat):Int)), (.int .u32 ((0:Nat):Int)), (.int .u32 ((0:Nat):Int)), (.int .u32 ((0:Nat):Int)), (.int .u32 ((0:Nat):Int)), (.int .u32 ((0:Nat):Int)), (.int .u32 ((0:Nat):Int)), (.int .u32 ((0:Nat):Int)), (.int .u32 ((0:Nat):Int)), (.int .u32 ((0:Nat):Int)), (.int .u32 ((0:Nat):Int)), (.int .u32 ((0:Nat):Int)), (.int .u32 ((0:Nat):Int)), (.int .u32 ((0:Nat):Int)), (.int .u32 ((0:Nat):Int)), (.int .u32 ((0:Nat):Int)), (.int .u32 ((0:Nat):Int)), (.int .u32 ((0:Nat):Int)), (.int .u32 ((0:Nat):Int)), (.int .u32 ((0:Nat):Int)), (.int .u32 ((0:Nat):Int)), (.int .u32 ((0:Nat):Int)), (.int .u32 ((0:Nat):Int)), (.int .u32 ((0:Nat):Int)), (.int .u32 ((0:Nat):Int)), (.int .u32 ((0:Nat):Int)), (.int .u32 ((0:Nat):Int)), (.int .u32 ((0:Nat):Int)), (.int .u32 ((0:Nat):Int)), (.int .u32 ((0:Nat):Int)), (.int .u32 ((0:Nat):Int)), (.int .u32 ((0:Nat):Int)), (.int .u32 ((0:Nat):Int)), (.int .u32 ((0:Nat):Int)), (.int .u32 ((0:Nat):Int)), (.int .u32 ((0:Nat):Int)), (.int .u32 ((0:Nat):Int)), (.int .u32 ((0:Nat):Int)), (.int .u32 ((0:Nat):Int)), (.int .u32 ((0:Nat):Int)), (.int .u32 ((0:Nat):Int)), (.int .u32 ((0:Nat):Int)), (.int .u32 ((0:Nat):Int)), (.int .u32 ((0:Nat):Int)), (.int .u32 ((0:Nat):Int)), (.int .u32 ((0:Nat):Int)), (.int .u32 ((0:Nat):Int)), (.int .u32 ((0:Nat):Int)), (.int .u32 ((0:Nat):Int)), (.int .u32 ((0:Nat):Int)), (.int .u32 ((0:Nat):Int)), (.int .u32 ((0:Nat):Int)), (.int .u32 ((0:Nat):Int)), (.int .u32 ((0:Nat):Int)), (.int .u32 ((0:Nat):Int)), (.int .u32 ((0:Nat):Int)), (.int .u32 ((0:Nat):Int)), (.int .u32 ((0:Nat):Int)), (.int .u32 ((0:Nat):Int)), (.int .u32 ((0:Nat):Int)), (.int .u32 ((0:Nat):Int)), (.int .u32 ((0:Nat):Int)), (.int .u32 ((0:Nat):Int)), (.int .u32 ((0:Nat):Int)), (.int .u32 ((0:Nat):Int)), (.int .u32 ((0:Nat):Int)), (.int .u32 ((0:Nat):Int)), (.int .u32 ((0:Nat):Int)), (.int .u32 ((0:Nat):Int)), (.int .u32 ((0:Nat):Int)), (.int .u32 ((0:Nat):Int)), (.int .u32 ((0:Nat):Int)), (.int .u32 ((0:Nat):Int)), (.int .u32 ((0:Nat):Int)), (.int .u32 ((0:Nat):Int)), (.int .u32 ((0:Nat):Int)), (.int .u32 ((0:Nat):Int)), (.int .u32 ((0:Nat):Int)), (.int .u32 ((0:Nat):Int)), (.int .u32 ((0:Nat):Int)), (.int .u32 ((0:Nat):Int)), (.int .u32 ((0:Nat):Int)), (.int .u32 ((0:Nat):Int)), (.int .u32 ((0:Nat):Int)), (.int .u32 ((0:Nat):Int)), (.int .u32 ((0:Nat):Int)), (.int .u32 ((0:Nat):Int)), (.int .u32 ((0:Nat):Int)), (.int .u32 ((0:Nat):Int)), (.int .u32 ((0:Nat):Int)), (.int .u32 ((0:Nat):Int)), (.int .u32 ((0:Nat):Int)), (.int .u32 ((0:Nat):Int)), (.int .u32 ((0:Nat):Int)), (.int .u32 ((0:Nat):Int)), (.int .u32 ((0:Nat):Int)), (.int .u32 ((0:Nat):Int)), (.int .u32 ((0:Nat):Int)), (.int .u32 ((0:Nat):Int)), (.int .u32 ((0:Nat):Int)), (.int .u32 ((0:Nat):Int)), (.int .u32 ((0:Nat):Int)), (.int .u32 ((0:Nat):Int)), (.int .u32 ((0:Nat):Int)), (.int .u32 ((0:Nat):Int)), (.int .u32 ((0:Nat):Int)), (.int .u32 ((0:Nat):Int)), (.int .u32 ((0:Nat):Int)), (.int .u32 ((0:Nat):Int)), (.int .u32 ((0:Nat):Int)), (.int .u32 ((0:Nat):Int)), (.int .u32 ((0:Nat):Int)), (.int .u32 ((0:Nat):Int)), (.int .u32 ((0:Nat):Int)), (.int .u32 ((0:Nat):Int)), (.int .u32 ((0:Nat):Int)), (.int .u32 ((0:Nat):Int)), (.int .u32 ((0:Nat):Int)), (.int .u32 ((0:Nat):Int)), (.int .u32 ((0:Nat):Int)), (.int .u32 ((0:Nat):Int)), (.int .u32 ((0:Nat):Int)), (.int .u32 ((0:Nat):Int)), (.int .u32 ((0:Nat):Int)), (.int .u32 ((0:Nat):Int)), (.int .u32 ((0:Nat):Int)), (.int .u32 ((0:Nat):Int)), (.int .u32 ((0:Nat):Int)), (.int .u32 ((0:Nat):Int)), (.int .u32 ((0:Nat):Int)), (.int .u32 ((0:Nat):Int)), (.int .u32 ((0:Nat):Int)), (.int .u32 ((0:Nat):Int)), (.int .u32 ((0:Nat):Int)), (.int .u32 ((0:Nat):Int)), (.int .u32 ((0:Nat):Int)), (.int .u32 ((0:Nat):Int)), (.int .u32 ((0:Nat):Int)), (.int .u32 ((0:Nat):Int)), (.int .u32 ((0:Nat):Int)), (.int .u32 ((0:Nat):Int)), (.int .u32 ((0:Nat):Int)), (.int .u32 ((0:Nat):Int)), (.int .u32 ((0:Nat):Int)), (.int .u32 ((0:Nat):Int)), (.int .u32 ((0:Nat):Int)), (.int .u32 ((0:Nat):Int)), (.int .u32 ((0:Nat):Int)), (.int .u32 ((0:Nat):Int)), (.int .u32 ((0:Nat):Int)), (.int .u32 ((0:Nat):Int)), (.int .u32 ((0:Nat):Int)), (.int .u32 ((0:Nat):Int)), (.int .u32 ((0:Nat):Int)), (.int .u32 ((0:Nat):Int)), (.int .u32 ((0:Nat):Int)), (.int .u32 ((0:Nat):Int)), (.int .u32 ((0:Nat):Int)), (.int .u32 ((0:Nat):Int)), (.int .u32 ((0:Nat):Int)), (.int .u32 ((0:Nat):Int)), (.int .u32 ((0:Nat):Int)), (.int .u32 ((0:Nat):Int)), (.int .u32 ((0:Nat):Int)), (.int .u32 ((0:Nat):Int)), (.int .u32 ((0:Nat):Int)), (.int .u32 ((0:Nat):Int)), (.int .u32 ((0:Nat):Int)), (.int .u32 ((0:Nat):Int)), (.int .u32 ((0:Nat):Int)), (.int .u32 ((0:Nat):Int)), (.int .u32 ((0:Nat):Int)), (.int .u32 ((0:Nat):Int)), (.int .u32 ((0:Nat):Int)), (.int .u32 ((0:Nat):Int)), (.int .u32 ((0:Nat):Int)), (.int .u32 ((0:Nat):Int)), (.int .u32 ((0:Nat):Int)), (.int .u32 ((0:Nat):Int)), (.int .u32 ((0:Nat):Int)), (.int .u32 ((0:Nat):Int)), (.int .u32 ((0:Nat):Int)), (.int .u32 ((0:Nat):Int)), (.int .u32 ((0:Nat):Int)), (.int .u32 ((0:Nat):Int)), (.int .u32 ((0:Nat):Int)), (.int .u32 ((0:Nat):Int)), (.int .u32 ((0:Nat):Int)), (.int .u32 ((0:Nat):Int)), (.int .u32 ((0:Nat):Int)), (.int .u32 ((0:Nat):Int)), (.int .u32 ((0:Nat):Int)), (.int .u32 ((0:Nat):Int)), (.int .u32 ((0:Nat):Int)), (.int .u32 ((0:Nat):Int)), (.int .u32 ((0:Nat):Int)), (.int .u32 ((0:Nat):Int)), (.int .u32 ((0:Nat):Int))])] (.cut (sr [gg 4 (.mov (xk .u32 0))] (.block 0 (.loop (sr [gg 5 (.bin .lss (.t 4) (xk .u32 256))] (.seq (.cond (.t 5) .skip (.exit 0)) (.cut (.block 1 (sr [gm 6 4, gm 2 6] (sr [gm 7 2, gg 8 (.bik .shl .u64 (.t 7) 24), gm 3 8] (sr [gg 9 (.mov (xk .i64 0))] (.block 2 (.loop (sr [gg 10 (.bin .lss (.t 9) (xk .i64 8))] (.seq (.cond (.t 10) .skip (.exit 2)) (.cut (.block 3 (.cut (sr [gm 11 3, gg 12 (.bin .and (.t 11) (xk .u32 2147483648)), gg 13 (.bin .neq (.t 12) (xk .u32 0))] (.cond (.t 13) (.reg [gm 14 3, gg 15 (.bik .shl .u64 (.t 14) 1), gg 16 (.bin .xor (.t 15) (xk .u32 79764919)), gm 3 16]) (.reg [gm 17 3, gg 18 (.bik .shl .u64 (.t 17) 1), gm 3 18]))) (.reg [gm 19 2, gm 20 3, gg 21 (.iaa (.t 1) (.t 19) 1 256), (G.mk none none (.st (.t 21) (.t 20) 1))]))) (.reg [gg 22 (.bin .add (.t 9) (xk .i64 1)), gm 9 22])))))))))) (.reg [gg 23 (.bin .add (.t 4) (xk .u32 1)), gm 4 23]))))))) (sr [gm 0 1] .ret)))) 0 [(.t 0)]) := by kernel_rfl
theorem c120_ : compF Tryz.prog 120 = some (.mk (sr [gg 2 (.mov (.k (.pointer none))), gg 3 (.mov (.k .nilIface))] (sr [gm 9 0, gg 10 (.call 30 [(.t 9)]), gm 8 10, gg 11 (.ext (.t 8) 0), gg 12 (.ext (.t 8) 1), gg 13 (.ext (.t 8) 2), gm 4 11, gm 5 12, gm 6 13] (.cut (sr [gm 14 6, gg 15 (.inl true (.t 14))] (.cond (.t 15) (sr [gm 16 6, gg 2 (.mov (.k (.pointer none))), gm 3 16] .ret) .skip)) (sr [gm 18 5, gm 19 4, gg 20 (.call 132 [(.t 18), (.t 19)]), gm 17 20, gg 21 (.ext (.t 17) 0), gg 22 (.ext (.t 17) 1), gm 7 21, gm 6 22] (.cut (sr [gm 23 6, gg 24 (.inl true (.t 23))] (.cond (.t 24) (sr [gm 25 6, gg 2 (.mov (.k (.pointer none))), gm 3 25] .ret) .skip)) (.cut (sr [gm 26 0, gm 27 7, gm 28 4, gg 29 (.call 133 [(.t 26), (.t 27), (.t 28)]), gm 6 29] (sr [gm 30 6, gg 31 (.inl true (.t 30))] (.cond (.t 31) (sr [gm 32 6, gg 2 (.mov (.k (.pointer none))), gm 3 32] .ret) .skip))) (sr [gm 33 7, gm 2 33, gg 3 (.mov (.k .nilIface))] .ret))))))) 1 [(.t 2), (.t 3)]) := by kernel_rfl
theorem c121_ : compF Tryz.prog 121 = some (.mk (sr [gg 6 (.mov (xk .i64 0)), gg 7 (.mov (.k .nilIface))] (.cut (sr [gm 9 1, gg 10 (.len false (.t 9)), gm 11 2, gg 12 (.bin .lss (.t 10) (.t 11))] (.cond (.t 12) (.seq (.drw [(.mk (gg 13 (.ld (.k (.pointer (some (Addr.mk 7 0 none)))) none)) 0 true []), (.mk (gg 6 (.mov (xk .i64 0))) 1 true []), (.mk (gm 7 13) 2 true [])]) .ret) .skip)) (.cut (.block 0 (.loop (.seq (sr [gm 14 6, gm 15 2, gg 16 (.bin .lss (.t 14) (.t 15)), gm 17 16, gq 18 17 true (.mov (.t 7)), gq 19 17 true (.inl false (.t 18)), gg 20 (.pick (.t 17) (.t 19) (.k (.bool false)))] (.cond (.t 20) .skip (.exit 0))) (.block 1 (sr [gg 8 (.mov (xk .i64 0))] (.seq (.drw [(.mk (gm 22 0) 0 true []), (.mk (gm 23 1) 1 true []), (.mk (gm 24 6) 2 true []), (.mk (gg 25 (.slq (.t 23) (some (.t 24)) none 1)) 3 true []), (.mk (gg 26 (.mkm "Read" (.t 22))) 4 true []), (.mk (gg 27 (.nil (.t 26))) 5 true []), (.mk (gm 28 22) 6 true []), (.mk (gg 29 (.inv (.t 28) "Read" [(.t 25)])) 7 false []), (.mk (gm 21 29) 8 true []), (.mk (gg 30 (.ext (.t 21) 0)) 9 true []), (.mk (gg 31 (.ext (.t 21) 1)) 10 true []), (.mk (gm 8 30) 11 true []), (.mk (gm 7 31) 12 true [])]) (.reg [gm 32 6, gm 33 8, gg 34 (.bin .add (.t 32) (.t 33)), gm 6 34]))))))) (.cut (sr [gm 35 6, gm 36 2, gg 37 (.bin .geq (.t 35) (.t 36))] (.cond (.t 37) (.reg [gg 7 (.mov (.k .nilIface))]) (sr [gm 38 6, gg 39 (.bin .gtr (.t 38) (xk .i64 0)), gm 40 39, gq 41 40 true (.mov (.t 7)), gq 42 40 true (.ld (.k (.pointer (some (Addr.mk 0 0 none)))) none), gq 43 40 true (.ieq 71 false (.t 41) (.t 42)), gg 44 (.pick (.t 40) (.t 43) (.k (.bool false)))] (.cond (.t 44) (.reg [gg 45 (.ld (.k (.pointer (some (Addr.mk 1 0 none)))) none), gm 7 45]) .skip)))) .ret)))) 3 [(.t 6), (.t 7)]) := by kernel_rfl
theorem c122_ : compF Tryz.prog 122 = some (.mk (.drw [(.mk (gg 4 (.ld (.t 1) none)) 0 true []), (.mk (gg 5 (.bik .shl .u64 (.t 4) 8)) 1 true []), (.mk (gg 6 (.ld (.t 2) none)) 2 true []), (.mk (gg 7 (.nil (.t 6))) 3 true []), (.mk (gg 8 (.ffa (.t 7) 2)) 4 true []), (.mk (gg 9 (.ld (.t 8) none)) 5 true []), (.mk (gg 10 (.ld (.t 1) none)) 6 true []), (.mk (gg 11 (.bik .shr .u64 (.t 10) 24)) 7 true []), (.mk (gg 12 (.cvi .u8 (.t 11))) 8 true []), (.mk (gm 13 0) 9 true []), (.mk (gg 14 (.bin .xor (.t 12) (.t 13))) 10 true []), (.mk (gg 15 (.nil (.t 9))) 11 true []), (.mk (gg 16 (.iaa (.t 15) (.t 14) 1 256)) 12 true []), (.mk (gg 17 (.ld (.t 16) none)) 13 true []), (.mk (gg 18 (.bin .xor (.t 5) (.t 17))) 14 true []), (.mk (G.mk none none (.st (.t 1) (.t 18) 1)) 15 false [])]) 3 []) := by kernel_rfl
theorem c132_ : compF Tryz.prog 132 = some (.mk (sr [gg 4 (.mov (.k (.pointer none))), gg 5 (.mov (.k .nilIface))] (.cut (sr [gm 7 0, gg 8 (.nil (.t 7)), gg 9 (.ffa (.t 8) 1), gg 10 (.sll (.t 9) none 1 4), gg 11 (.b2s (.t 10)), gg 12 (.bin .neq (.t 11) (.k (.string (ByteArray.mk #[79, 103, 103, 83]))))] (.cond (.t 12) (.seq (.drw [(.mk (gg 13 (.ld (.k (.pointer (some (Addr.mk 8 0 none)))) none)) 0 true []), (.mk (gg 4 (.mov (.k (.pointer none)))) 1 true []), (.mk (gm 5 13) 2 true [])]) .ret) .skip)) (.cut (sr [gm 14 0, gg 15 (.nil (.t 14)), gg 16 (.ffa (.t 15) 6), gg 17 (.ld (.t 16) none), gg 18 (.bin .neq (.t 17) (xk .u8 2))] (.cond (.t 18) (.seq (.drw [(.mk (gg 19 (.ld (.k (.pointer (some (Addr.mk 9 0 none)))) none)) 0 true []), (.mk (gg 4 (.mov (.k (.pointer none)))) 1 true []), (.mk (gm 5 19) 2 true [])]) .ret) .skip)) (.cut (sr [gm 20 1, gg 21 (.len false (.t 20)), gg 22 (.bin .lss (.t 21) (xk .i64 19))] (.cond (.t 22) (.seq (.drw [(.mk (gg 23 (.ld (.k (.pointer (some (Addr.mk 10 0 none)))) none)) 0 true []), (.mk (gg 4 (.mov (.k (.pointer none)))) 1 true []), (.mk (gm 5 23) 2 true [])]) .ret) .skip)) (.cut (sr [gm 24 1, gg 25 (.slc (.t 24) none (some (xk .i64 8)) 1), gg 26 (.b2s (.t 25)), gm 6 26] (sr [gm 27 6, gg 28 (.bin .neq (.t 27) (.k (.string (ByteArray.mk #[79, 112, 117, 115, 72, 101, 97, 100]))))] (.cond (.t 28) (.seq (.drw [(.mk (gg 29 (.ld (.k (.pointer (some (Addr.mk 11 0 none)))) none)) 0 true []), (.mk (gg 4 (.mov (.k (.pointer none)))) 1 true []), (.mk (gm 5 29) 2 true [])]) .ret) .skip))) (.seq (.drw [(.mk (gm 30 1) 0 true []), (.mk (gg 31 (.ia (.t 30) (xk .i64 8) 1)) 1 true []), (.mk (gg 32 (.ld (.t 31) none)) 2 true []), (.mk (gm 33 1) 3 true []), (.mk (gg 34 (.ia (.t 33) (xk .i64 9) 1)) 4 true []), (.mk (gg 35 (.ld (.t 34) none)) 5 true []), (.mk (gg 36 (.ld (.k (.pointer (some (Addr.mk 3 0 none)))) (some 0))) 6 true []), (.mk (gm 37 1) 7 true []), (.mk (gg 38 (.slq (.t 37) (some (xk .i64 10)) (some (xk .i64 12)) 1)) 8 true []), (.mk (gg 40 (.ld (.k (.pointer (some (Addr.mk 3 0 none)))) (some 0))) 10 true []), (.mk (gm 41 1) 11 true []), (.mk (gg 42 (.slq (.t 41) (some (xk .i64 12)) (some (xk .i64 16)) 1)) 12 true []), (.mk (gg 44 (.ld (.k (.pointer (some (Addr.mk 3 0 none)))) (some 0))) 14 true []), (.mk (gm 45 1) 15 true []), (.mk (gg 46 (.slq (.t 45) (some (xk .i64 16)) (some (xk .i64 18)) 1)) 16 true []), (.mk (gm 48 1) 18 true []), (.mk (gg 49 (.ia (.t 48) (xk .i64 18) 1)) 19 true []), (.mk (gg 50 (.ld (.t 49) none)) 20 true []), (.mk (gg 39 (.call 141 [(.t 36), (.t 38)])) 9 false [20, 14, 10, 5, 2]), (.mk (gg 43 (.call 93 [(.t 40), (.t 42)])) 13 false [20, 14, 5, 2]), (.mk (gg 47 (.call 141 [(.t 44), (.t 46)])) 17 false [20, 5, 2]), (.mk (gg 51 (.bld [(.int .u8 ((0:Nat):Int)), (.int .u8 ((0:Nat):Int)), (.int .u16 ((0:Nat):Int)), (.int .u16 ((0:Nat):Int)), (.int .u32 ((0:Nat):Int)), (.int .u8 ((0:Nat):Int))] [(5, (1, (.t 32))), (1, (1, (.t 35))), (3, (1, (.t 39))), (4, (1, (.t 43))), (2, (1, (.t 47))), (0, (1, (.t 50)))])) 21 true []), (.mk (gg 52 (.box 105 (.t 51))) 22 false []), (.mk (gm 4 52) 23 true []), (.mk (gg 5 (.mov (.k .nilIface))) 24 true [])]) .ret)))))) 2 [(.t 4), (.t 5)]) := by kernel_rfl
theorem c133_ : compF Tryz.prog 133 = some (.mk (sr [gg 6 (.mov (.k .nilIface))] (sr [gm 7 1, gg 8 (.nil (.t 7)), gg 9 (.ffa (.t 8) 0), gg 10 (.ld (.t 9) none)] (.block 0 (sr [gg 15 (.bin .eql (.t 10) (xk .u8 0)), gm 14 15] (.cond (.t 14) (.cut (sr [gm 16 2, gg 17 (.len false (.t 16)), gg 18 (.bin .neq (.t 17) (xk .i64 19))] (.cond (.t 18) (sr [gg 19 (.ld (.k (.pointer (some (Addr.mk 10 0 none)))) none), gm 6 19] .ret) .skip)) (sr [gm 20 0, gg 21 (.nil (.t 20)), gg 22 (.ffa (.t 21) 5), (G.mk none none (.st (.t 22) (.k (.pointer none)) 1))] (sr [gg 6 (.mov (.k .nilIface))] .ret))) (.cut (sr [gg 24 (.bin .eql (.t 10) (xk .u8 1)), gm 23 24] (.cond (.t 23) .skip (sr [gg 25 (.bin .eql (.t 10) (xk .u8 2)), gm 23 25] (.cond (.t 23) .skip (.reg [gg 26 (.bin .eql (.t 10) (xk .u8 255)), gm 23 26]))))) (.cond (.t 23) (sr [gm 27 0, gm 28 1, gm 29 2, gg 30 (.call 142 [(.t 27), (.t 28), (.t 29)]), gm 6 30] .ret) (sr [gg 32 (.bin .eql (.t 10) (xk .u8 3)), gm 31 32] (.cond (.t 31) (sr [gm 33 0, gm 34 1, gm 35 2, gg 36 (.call 143 [(.t 33), (.t 34), (.t 35)]), gm 6 36] .ret) (sr [gm 11 0, gg 12 (.nil (.t 11)), gg 13 (.ffa (.t 12) 5), (G.mk none none (.st (.t 13) (.k (.pointer none)) 1))] (sr [gg 6 (.mov (.k .nilIface))] .ret))))))))))) 3 [(.t 6)]) := by kernel_rfl
theorem c141_ : compF Tryz.prog 141 = some (.mk (sr [gg 2 (.box 172 (.t 0)), gg 4 (.mov (xk .u16 0))] (sr [gm 5 1, gg 6 (.ia (.t 5) (xk .i64 1) 1), gg 7 (.ld (.t 6) none)] (.seq (.drw [(.mk (gm 8 1) 0 true []), (.mk (gg 9 (.ia (.t 8) (xk .i64 0) 1)) 1 true []), (.mk (gg 10 (.ld (.t 9) none)) 2 true []), (.mk (gg 11 (.cvi .u16 (.t 10))) 3 true []), (.mk (gm 12 1) 4 true []), (.mk (gg 13 (.ia (.t 12) (xk .i64 1) 1)) 5 true []), (.mk (gg 14 (.ld (.t 13) none)) 6 true []), (.mk (gg 15 (.cvi .u16 (.t 14))) 7 true []), (.mk (gg 16 (.bik .shl .u64 (.t 15) 8)) 8 true []), (.mk (gg 17 (.bin .or (.t 11) (.t 16))) 9 true []), (.mk (gm 4 17) 10 true [])]) .ret))) 2 [(.t 4)]) := by kernel_rfl
theorem c142_ : compF Tryz.prog 142 = some (.mk (sr [gg 6 (.mov (.k .nilIface))] (sr [gm 8 1, gg 9 (.nil (.t 8)), gg 10 (.ffa (.t 9) 1), gg 11 (.ld (.t 10) none), gg 12 (.cvi .i64 (.t 11)), gg 13 (.bin .add (xk .i64 21) (.t 12)), gm 7 13] (.cut (sr [gm 14 2, gg 15 (.len false (.t 14)), gm 16 7, gg 17 (.bin .neq (.t 15) (.t 16))] (.cond (.t 17) (sr [gg 18 (.ld (.k (.pointer (some (Addr.mk 10 0 none)))) none), gm 6 18] .ret) .skip)) (.seq (.drw [(.mk (gm 19 0) 0 true []), (.mk (gm 20 2) 1 true []), (.mk (gg 21 (.ia (.t 20) (xk .i64 19) 1)) 2 true []), (.mk (gg 22 (.ld (.t 21) none)) 3 true []), (.mk (gm 23 2) 4 true []), (.mk (gg 24 (.ia (.t 23) (xk .i64 20) 1)) 5 true []), (.mk (gg 25 (.ld (.t 24) none)) 6 true []), (.mk (gm 26 2) 7 true []), (.mk (gg 27 (.slq (.t 26) (some (xk .i64 21)) none 1)) 8 true []), (.mk (gg 28 (.app 5 1 1 (.k (.slice none 0 0)) (.t 27))) 9 false [6, 3]), (.mk (gg 29 (.bld [(.int .u8 ((0:Nat):Int)), (.int .u8 ((0:Nat):Int)), (.slice none 0 0), (.slice none 0 0)] [(0, (1, (.t 22))), (1, (1, (.t 25))), (2, (1, (.t 28)))])) 10 true []), (.mk (gg 30 (.box 102 (.t 29))) 11 false []), (.mk (gg 31 (.nil (.t 19))) 12 true []), (.mk (gg 32 (.ffa (.t 31) 5)) 13 true []), (.mk (G.mk none none (.st (.t 32) (.t 30) 1)) 14 false [])]) (sr [gg 6 (.mov (.k .nilIface))] .ret))))) 3 [(.t 6)]) := by kernel_rfl
theorem c164_ : compF Tryz.prog 164 = some (.mk (sr [gg 4 (.mov (xk .i64 0)), gg 5 (.mov (.k .nilIface))] (.cut (sr [gm 7 0, gg 8 (.nil (.t 7)), gg 9 (.ffa (.t 8) 0), gg 10 (.ld (.t 9) none), gg 11 (.len false (.t 10)), gg 12 (.bin .eql (.t 11) (xk .i64 0))] (.cond (.t 12) (.seq (.drw [(.mk (gg 13 (.ld (.k (.pointer (some (Addr.mk 0 0 none)))) none)) 0 true []), (.mk (gg 4 (.mov (xk .i64 0))) 1 true []), (.mk (gm 5 13) 2 true [])]) .ret) .skip)) (sr [gm 14 1, gm 15 0, gg 16 (.nil (.t 15)), gg 17 (.ffa (.t 16) 0), gg 18 (.ld (.t 17) none), gg 19 (.cpy 1 (.t 14) (.t 18)), gm 6 19] (sr [gm 20 0, gm 21 0, gg 22 (.nil (.t 21)), gg 23 (.ffa (.t 22) 0), gg 24 (.ld (.t 23) none), gm 25 6, gg 26 (.slq (.t 24) (some (.t 25)) none 1), gg 27 (.nil (.t 20)), gg 28 (.ffa (.t 27) 0), (G.mk none none (.st (.t 28) (.t 26) 1))] (sr [gm 29 6, gm 4 29, gg 5 (.mov (.k .nilIface))] .ret))))) 2 [(.t 4), (.t 5)]) := by kernel_rfl
theorem c6_ : compF Tryz.prog 6 = some (.mk (sr [gg 1 (.box 25 (.t 0)), gg 2 (.mov (.k (.bool false)))] (.cut (sr [gg 8 (.ld (.t 1) (some 10)), gg 9 (.call 8 [(.t 8)]), gg 10 (.un .not (.t 9))] (.cond (.t 10) (sr [gg 2 (.mov (.k (.bool true)))] .ret) .skip)) (sr [gg 12 (.ld (.t 1) (some 10)), gg 13 (.call 10 [(.t 12), (.k (.slice none 0 0))]), gm 11 13, gg 14 (.ext (.t 11) 0), gg 15 (.ext (.t 11) 1), gg 16 (.ext (.t 11) 2), gm 3 14, gm 4 15, gm 5 16] (.cut (sr [gm 17 5, gg 18 (.un .not (.t 17)), gm 19 18, gq 20 19 false (.ffa (.t 1) 4), gq 21 19 false (.ld (.t 20) none), gq 22 19 false (.bin .lss (.t 21) (xk .i64 0)), gg 23 (.pick (.t 19) (.k (.bool true)) (.t 22))] (.cond (.t 23) (sr [gg 2 (.mov (.k (.bool true)))] .ret) .skip)) (sr [gm 25 3, gg 26 (.call 19 [(.t 25)]), gm 24 26, gg 27 (.ext (.t 24) 0), gg 28 (.ext (.t 24) 1), gg 6 (.alc 50 [(.int .i64 ((0:Nat):Int)), (.int .i64 ((0:Nat):Int)), (.int .i64 ((0:Nat):Int)), (.int .i64 ((0:Nat):Int)), (.int .i64 ((0:Nat):Int)), (.int .u32 ((0:Nat):Int)), (.int .i64 ((0:Nat):Int)), (.int .i64 ((0:Nat):Int)), (.string (ByteArray.mk #[])), (.slice none 0 0)]), (G.mk none none (.st (.t 6) (.t 27) 10)), gm 7 28] (.seq (.drw [(.mk (gm 29 7) 0 true []), (.mk (gg 30 (.bin .eql (.t 29) (xk .i64 0))) 1 true []), (.mk (gm 31 30) 2 true []), (.mk (gq 32 31 true (.ld (.t 6) (some 10))) 3 true []), (.mk (gq 34 31 true (.ld (.t 1) (some 10))) 5 true []), (.mk (gq 33 31 true (.call 20 [(.t 32)])) 4 false [5]), (.mk (gq 35 31 true (.call 20 [(.t 34)])) 6 false []), (.mk (gq 36 31 true (.bin .eql (.t 33) (.t 35))) 7 true []), (.mk (gg 37 (.pick (.t 31) (.t 36) (.k (.bool false)))) 8 true []), (.mk (gm 38 37) 9 true []), (.mk (gq 39 38 true (.call 15 [])) 10 false []), (.mk (gg 40 (.pick (.t 38) (.t 39) (.k (.bool false)))) 11 true []), (.mk (gm 2 40) 12 true [])]) .ret)))))) 1 [(.t 2)]) := by kernel_rfl
theorem c7_ : compF Tryz.prog 7 = some (.mk (sr [gg 2 (.mov (.k (.bool false)))] (.cut (sr [gm 10 0, gg 11 (.len true (.t 10)), gg 12 (.bin .gtr (.t 11) (xk .i64 2147483647))] (.cond (.t 12) (sr [gg 2 (.mov (.k (.bool true)))] .ret) .skip)) (.cut (sr [gm 13 0, gg 14 (.len true (.t 13)), gg 15 (.bin .gtr (.t 14) (xk .i64 500))] (.cond (.t 15) (sr [gg 2 (.mov (.k (.bool true)))] .ret) .skip)) (sr [gm 17 0, gg 18 (.bsl 9 1 1 [(.string (ByteArray.mk #[]))] [(0, (1, (.t 17)))]), gg 19 (.bld [(.int .u32 ((0:Nat):Int)), (.int .u32 ((0:Nat):Int)), (.int .u64 ((0:Nat):Int)), (.int .i64 ((0:Nat):Int)), (.slice none 0 0), (.bool false)] [(0, (1, (xk .u32 1))), (3, (1, (xk .i64 2))), (4, (1, (.t 18)))]), gg 20 (.call 22 [(.k (.string (ByteArray.mk #[99, 97, 114, 114, 111, 110, 97, 100, 101]))), (.k (.slice none 0 0))]), gg 21 (.bsl 9 1 1 [(.string (ByteArray.mk #[]))] [(0, (1, (.t 20)))]), gg 22 (.bld [(.int .u32 ((0:Nat):Int)), (.int .u32 ((0:Nat):Int)), (.int .u64 ((0:Nat):Int)), (.int .i64 ((0:Nat):Int)), (.slice none 0 0), (.bool false)] [(0, (1, (xk .u32 1))), (1, (1, (xk .u32 1))), (4, (1, (.t 21)))]), gg 23 (.bsl 57 6 2 [(.int .u32 ((0:Nat):Int)), (.int .u32 ((0:Nat):Int)), (.int .u64 ((0:Nat):Int)), (.int .i64 ((0:Nat):Int)), (.slice none 0 0), (.bool false), (.int .u32 ((0:Nat):Int)), (.int .u32 ((0:Nat):Int)), (.int .u64 ((0:Nat):Int)), (.int .i64 ((0:Nat):Int)), (.slice none 0 0), (.bool false)] [(0, (6, (.t 19))), (6, (6, (.t 22)))]), gg 24 (.call 21 [(.t 23)]), gm 16 24, gg 25 (.ext (.t 16) 0), gg 26 (.ext (.t 16) 1), gm 3 25, gm 4 26] (sr [gm 28 3, gg 29 (.call 23 [(.t 28)]), gm 27 29, gg 30 (.ext (.t 27) 0), gg 31 (.ext (.t 27) 1), gg 32 (.ext (.t 27) 2), gg 5 (.alc 25 [(.int .i64 ((0:Nat):Int)), (.int .i64 ((0:Nat):Int)), (.int .i64 ((0:Nat):Int)), (.int .i64 ((0:Nat):Int)), (.int .i64 ((0:Nat):Int)), (.int .u32 ((0:Nat):Int)), (.int .i64 ((0:Nat):Int)), (.int .i64 ((0:Nat):Int)), (.string (ByteArray.mk #[])), (.slice none 0 0)]), (G.mk none none (.st (.t 5) (.t 30) 10)), gm 6 31, gm 7 32] (.cut (sr [gm 33 4, gg 34 (.bin .neq (.t 33) (xk .i64 1)), gm 35 34, gq 36 35 false (.mov (.t 7)), gq 37 35 false (.bin .neq (.t 36) (xk .i64 1)), gg 38 (.pick (.t 35) (.k (.bool true)) (.t 37))] (.cond (.t 38) (sr [gg 2 (.mov (.k (.bool true)))] .ret) .skip)) (sr [gm 40 3, gg 41 (.call 19 [(.t 40)]), gm 39 41, gg 42 (.ext (.t 39) 0), gg 43 (.ext (.t 39) 1), gg 8 (.alc 50 [(.int .i64 ((0:Nat):Int)), (.int .i64 ((0:Nat):Int)), (.int .i64 ((0:Nat):Int)), (.int .i64 ((0:Nat):Int)), (.int .i64 ((0:Nat):Int)), (.int .u32 ((0:Nat):Int)), (.int .i64 ((0:Nat):Int)), (.int .i64 ((0:Nat):Int)), (.string (ByteArray.mk #[])), (.slice none 0 0)]), (G.mk none none (.st (.t 8) (.t 42) 10)), gm 9 43] (.cut (sr [gm 44 6, gg 45 (.un .not (.t 44))] (.cond (.t 45) (sr [gm 46 9, gg 47 (.bin .eql (.t 46) (xk .i64 1)), gm 48 47, gq 49 48 true (.call 15 []), gg 50 (.pick (.t 48) (.t 49) (.k (.bool false))), gm 2 50] .ret) .skip)) (.seq (.drw [(.mk (gm 51 9) 0 true []), (.mk (gg 52 (.bin .eql (.t 51) (xk .i64 0))) 1 true []), (.mk (gm 53 52) 2 true []), (.mk (gq 54 53 true (.ld (.t 8) (some 10))) 3 true []), (.mk (gq 56 53 true (.ld (.t 5) (some 10))) 5 true []), (.mk (gq 55 53 true (.call 20 [(.t 54)])) 4 false [5]), (.mk (gq 57 53 true (.call 20 [(.t 56)])) 6 false []), (.mk (gq 58 53 true (.bin .eql (.t 55) (.t 57))) 7 true []), (.mk (gg 59 (.pick (.t 53) (.t 58) (.k (.bool false)))) 8 true []), (.mk (gm 60 59) 9 true []), (.mk (gq 61 60 true (.call 15 [])) 10 false []), (.mk (gg 62 (.pick (.t 60) (.t 61) (.k (.bool false)))) 11 true []), (.mk (gm 2 62) 12 true [])]) .ret))))))))) 1 [(.t 2)]) := by kernel_rfl
theorem c19_ : compD Tryz.prog 19 = some (.mk (sr [gg 2 (.alc 50 [(.int .i64 ((0:Nat):Int)), (.int .i64 ((0:Nat):Int)), (.int .i64 ((0:Nat):Int)), (.int .i64 ((0:Nat):Int)), (.int .i64 ((0:Nat):Int)), (.int .u32 ((0:Nat):Int)), (.int .i64 ((0:Nat):Int)), (.int .i64 ((0:Nat):Int)), (.string (ByteArray.mk #[])), (.slice none 0 0)]), gg 3 (.alc 3 [(.int .i64 ((0:Nat):Int))])] (sr [gg 10 (.mkf 40 [(.t 2), (.t 3)])] (sr [gm 12 0, gg 13 (.call 29 [(.t 12)]), gm 11 13, gg 14 (.ext (.t 11) 0), gg 15 (.ext (.t 11) 1), gg 16 (.ext (.t 11) 2), gm 4 14, gm 5 15, gm 6 16] (.cut (sr [gm 17 6, gg 18 (.inl true (.t 17))] (.cond (.t 18) (sr [gg 19 (.bld [(.int .i64 ((0:Nat):Int)), (.int .i64 ((0:Nat):Int)), (.int .i64 ((0:Nat):Int)), (.int .i64 ((0:Nat):Int)), (.int .i64 ((0:Nat):Int)), (.int .u32 ((0:Nat):Int)), (.int .i64 ((0:Nat):Int)), (.int .i64 ((0:Nat):Int)), (.string (ByteArray.mk #[])), (.slice none 0 0)] []), (G.mk none none (.st (.t 2) (.t 19) 10)), (G.mk none none (.st (.t 3) (xk .i64 1) 1))] .ret) .skip)) (sr [gm 20 4, gg 21 (.call 41 [(.t 20)]), gg 7 (.alc 102 [(.int .u8 ((0:Nat):Int)), (.int .u8 ((0:Nat):Int)), (.slice none 0 0), (.slice none 0 0)]), (G.mk none none (.st (.t 7) (.t 21) 4))] (.seq (.drw [(.mk (gm 22 5) 0 true []), (.mk (gg 23 (.nil (.t 22))) 1 true []), (.mk (gg 24 (.ffa (.t 23) 5)) 2 true []), (.mk (gg 25 (.ld (.t 24) none)) 3 true []), (.mk (gg 26 (.cvi .i64 (.t 25))) 4 true []), (.mk (gm 27 5) 5 true []), (.mk (gg 28 (.nil (.t 27))) 6 true []), (.mk (gg 29 (.ffa (.t 28) 1)) 7 true []), (.mk (gg 30 (.ld (.t 29) none)) 8 true []), (.mk (gg 31 (.cvi .i64 (.t 30))) 9 true []), (.mk (gm 32 5) 10 true []), (.mk (gg 33 (.nil (.t 32))) 11 true []), (.mk (gg 34 (.ffa (.t 33) 0)) 12 true []), (.mk (gg 35 (.ld (.t 34) none)) 13 true []), (.mk (gg 36 (.cvi .i64 (.t 35))) 14 true []), (.mk (gm 37 5) 15 true []), (.mk (gg 38 (.nil (.t 37))) 16 true []), (.mk (gg 39 (.ffa (.t 38) 3)) 17 true []), (.mk (gg 40 (.ld (.t 39) none)) 18 true []), (.mk (gg 41 (.cvi .i64 (.t 40))) 19 true []), (.mk (gm 42 5) 20 true []), (.mk (gg 43 (.nil (.t 42))) 21 true []), (.mk (gg 44 (.ffa (.t 43) 2)) 22 true []), (.mk (gg 45 (.ld (.t 44) none)) 23 true []), (.mk (gg 46 (.cvi .i64 (.t 45))) 24 true []), (.mk (gm 47 5) 25 true []), (.mk (gg 48 (.nil (.t 47))) 26 true []), (.mk (gg 49 (.ffa (.t 48) 4)) 27 true []), (.mk (gg 50 (.ld (.t 49) none)) 28 true []), (.mk (gg 51 (.ffa (.t 7) 0)) 29 true []), (.mk (gg 52 (.ld (.t 51) none)) 30 true []), (.mk (gg 53 (.cvi .i64 (.t 52))) 31 true []), (.mk (gg 54 (.ffa (.t 7) 1)) 32 true []), (.mk (gg 55 (.ld (.t 54) none)) 33 true []), (.mk (gg 56 (.cvi .i64 (.t 55))) 34 true []), (.mk (gg 57 (.ffa (.t 7) 2)) 35 true []), (.mk (gg 58 (.ld (.t 57) none)) 36 true []), (.mk (gg 59 (.b2s (.t 58))) 37 true []), (.mk (gg 60 (.bld [(.int .i64 ((0:Nat):Int)), (.int .i64 ((0:Nat):Int)), (.int .i64 ((0:Nat):Int)), (.int .i64 ((0:Nat):Int)), (.int .i64 ((0:Nat):Int)), (.int .u32 ((0:Nat):Int)), (.int .i64 ((0:Nat):Int)), (.int .i64 ((0:Nat):Int)), (.string (ByteArray.mk #[])), (.slice none 0 0)] [(0, (1, (.t 26))), (1, (1, (.t 31))), (2, (1, (.t 36))), (3, (1, (.t 41))), (4, (1, (.t 46))), (5, (1, (.t 50))), (6, (1, (.t 53))), (7, (1, (.t 56))), (8, (1, (.t 59))), (9, (1, (.k (.slice none 0 0))))])) 38 true []), (.mk (G.mk none none (.st (.t 2) (.t 60) 10)) 39 false [])]) (.cut (sr [gg 61 (.ffa (.t 7) 3), gg 62 (.ld (.t 61) none), gg 63 (.len false (.t 62)), gg 64 (.mov (xk .i64 0))] (.block 0 (.loop (sr [gg 65 (.bin .lss (.t 64) (.t 63))] (.seq (.cond (.t 65) .skip (.exit 0)) (.seq (.block 1 (sr [gg 66 (.ia (.t 62) (.t 64) 1), gg 67 (.ld (.t 66) none), gm 9 67] (.reg [gg 68 (.ffa (.t 2) 9), gg 69 (.ld (.t 68) none), gm 70 9, gg 71 (.cvi .i64 (.t 70)), gg 72 (.bsl 2 1 1 [(.int .i64 ((0:Nat):Int))] [(0, (1, (.t 71)))]), gg 73 (.app 2 1 8 (.t 69) (.t 72)), gg 74 (.ffa (.t 2) 9), (G.mk none none (.st (.t 74) (.t 73) 1))]))) (.reg [gg 75 (.bin .add (.t 64) (xk .i64 1)), gm 64 75]))))))) (sr [gg 76 (.ld (.t 2) (some 10)), (G.mk none none (.st (.t 2) (.t 76) 10)), (G.mk none none (.st (.t 3) (xk .i64 0) 1))] .ret)))))))) 1 [(.cell 2 (some 10)), (.cell 3 none)]) := by kernel_rfl
theorem c20_ : compF Tryz.prog 20 = some (.mk (sr [gg 1 (.box 25 (.t 0)), gg 2 (.mov (.k (.string (ByteArray.mk #[]))))] (.seq (.drw [(.mk (gg 3 (.ffa (.t 1) 0)) 0 true []), (.mk (gg 4 (.ld (.t 3) none)) 1 true []), (.mk (gg 5 (.ffa (.t 1) 1)) 2 true []), (.mk (gg 6 (.ld (.t 5) none)) 3 true []), (.mk (gg 7 (.ffa (.t 1) 2)) 4 true []), (.mk (gg 8 (.ld (.t 7) none)) 5 true []), (.mk (gg 9 (.ffa (.t 1) 3)) 6 true []), (.mk (gg 10 (.ld (.t 9) none)) 7 true []), (.mk (gg 11 (.ffa (.t 1) 4)) 8 true []), (.mk (gg 12 (.ld (.t 11) none)) 9 true []), (.mk (gg 13 (.ffa (.t 1) 5)) 10 true []), (.mk (gg 14 (.ld (.t 13) none)) 11 true []), (.mk (gg 15 (.cvi .i64 (.t 14))) 12 true []), (.mk (gg 16 (.ffa (.t 1) 6)) 13 true []), (.mk (gg 17 (.ld (.t 16) none)) 14 true []), (.mk (gg 18 (.ffa (.t 1) 7)) 15 true []), (.mk (gg 19 (.ld (.t 18) none)) 16 true []), (.mk (gg 22 (.ffa (.t 1) 9)) 19 true []), (.mk (gg 23 (.ld (.t 22) none)) 20 true []), (.mk (gg 26 (.ffa (.t 1) 8)) 23 true []), (.mk (gg 27 (.ld (.t 26) none)) 24 true []), (.mk (gg 20 (.bsl 3 1 8 [(.int .i64 ((0:Nat):Int)), (.int .i64 ((0:Nat):Int)), (.int .i64 ((0:Nat):Int)), (.int .i64 ((0:Nat):Int)), (.int .i64 ((0:Nat):Int)), (.int .i64 ((0:Nat):Int)), (.int .i64 ((0:Nat):Int)), (.int .i64 ((0:Nat):Int))] [(0, (1, (.t 4))), (1, (1, (.t 6))), (2, (1, (.t 8))), (3, (1, (.t 10))), (4, (1, (.t 12))), (5, (1, (.t 15))), (6, (1, (.t 17))), (7, (1, (.t 19)))])) 17 false [24, 20]), (.mk (gg 21 (.call 42 [(.t 20)])) 18 false [24, 20]), (.mk (gg 24 (.call 43 [(.t 23)])) 21 false [24]), (.mk (gg 25 (.bin .add (.t 21) (.t 24))) 22 true []), (.mk (gg 28 (.call 44 [(.t 27)])) 25 false []), (.mk (gg 29 (.bin .add (.t 25) (.t 28))) 26 true []), (.mk (gm 2 29) 27 true [])]) .ret)) 1 [(.t 2)]) := by kernel_rfl
theorem c41_ : compF Tryz.prog 41 = some (.mk (sr [gg 2 (.alc 102 [(.int .u8 ((0:Nat):Int)), (.int .u8 ((0:Nat):Int)), (.slice none 0 0), (.slice none 0 0)])] (.cut (sr [gm 3 0, gg 4 (.nil (.t 3)), gg 5 (.ffa (.t 4) 5), gg 6 (.ld (.t 5) none), gg 7 (.pnl false (.t 6))] (.cond (.t 7) (sr [gg 8 (.bld [(.int .u8 ((0:Nat):Int)), (.int .u8 ((0:Nat):Int)), (.slice none 0 0), (.slice none 0 0)] []), (G.mk none none (.st (.t 2) (.t 8) 4))] .ret) .skip)) (.seq (.drw [(.mk (gm 9 0) 0 true []), (.mk (gg 10 (.nil (.t 9))) 1 true []), (.mk (gg 11 (.ffa (.t 10) 5)) 2 true []), (.mk (gg 12 (.ld (.t 11) none)) 3 true []), (.mk (gg 13 (.nil (.t 12))) 4 true []), (.mk (gg 14 (.ffa (.t 13) 0)) 5 true []), (.mk (gg 15 (.ld (.t 14) none)) 6 true []), (.mk (gm 16 0) 7 true []), (.mk (gg 17 (.nil (.t 16))) 8 true []), (.mk (gg 18 (.ffa (.t 17) 5)) 9 true []), (.mk (gg 19 (.ld (.t 18) none)) 10 true []), (.mk (gg 20 (.nil (.t 19))) 11 true []), (.mk (gg 21 (.ffa (.t 20) 1)) 12 true []), (.mk (gg 22 (.ld (.t 21) none)) 13 true []), (.mk (gm 23 0) 14 true []), (.mk (gg 24 (.nil (.t 23))) 15 true []), (.mk (gg 25 (.ffa (.t 24) 5)) 16 true []), (.mk (gg 26 (.ld (.t 25) none)) 17 true []), (.mk (gg 27 (.nil (.t 26))) 18 true []), (.mk (gg 28 (.ffa (.t 27) 2)) 19 true []), (.mk (gg 29 (.ld (.t 28) none)) 20 true []), (.mk (gm 31 0) 22 true []), (.mk (gg 32 (.nil (.t 31))) 23 true []), (.mk (gg 33 (.ffa (.t 32) 5)) 24 true []), (.mk (gg 34 (.ld (.t 33) none)) 25 true []), (.mk (gg 35 (.nil (.t 34))) 26 true []), (.mk (gg 36 (.ffa (.t 35) 3)) 27 true []), (.mk (gg 37 (.ld (.t 36) none)) 28 true []), (.mk (gg 30 (.app 5 1 1 (.k (.slice none 0 0)) (.t 29))) 21 false [28, 25, 13, 10, 6, 3]), (.mk (gg 38 (.app 106 1 2 (.k (.slice none 0 0)) (.t 37))) 29 false [13, 10, 6, 3]), (.mk (gg 39 (.bld [(.int .u8 ((0:Nat):Int)), (.int .u8 ((0:Nat):Int)), (.slice none 0 0), (.slice none 0 0)] [(0, (1, (.t 15))), (1, (1, (.t 22))), (2, (1, (.t 30))), (3, (1, (.t 38)))])) 30 true []), (.mk (G.mk none none (.st (.t 2) (.t 39) 4)) 31 false [])]) .ret))) 1 [(.cell 2 (some 4))]) := by kernel_rfl
end Go.Proofs.YtokkphocaloelaaGreatDoor

end
section
namespace Go.Vc
open Go.RowKit (Below)

def kill : List Blk → List Blk → Prop
 | [], [] => True
 | .dead :: r, _ :: r1 => kill r r1
 | k :: r, k1 :: r1 => k = k1 ∧ kill r r1
 | _, _ => False
def wake : List Blk → List Blk → List Blk → List Blk
 | .dead :: r, k1 :: r1, _ :: r' => k1 :: wake r r1 r'
 | _ :: r, _ :: r1, k' :: r' => k' :: wake r r1 r'
 | _, _, r' => r'
theorem kill_spec : ∀ {Hd H : List Blk}, kill Hd H → Hd.length = H.length ∧ ∀ (b : Nat) k, Hd[b]? = some k → k = .dead ∨ H[b]? = some k
 | [], [], _ => ⟨rfl, fun b k h => by simp at h⟩
 | [], _ :: _, h => by simp [kill] at h
 | k :: r, [], h => by cases k <;> simp [kill] at h
 | k :: r, k1 :: r1, h => by
   have key : (k = .dead ∨ k = k1) ∧ kill r r1 := by
     cases k with
     | dead => exact ⟨.inl rfl, h⟩
     | cells T cs => exact ⟨.inr h.1, h.2⟩
     | vec wr T e bs wd xs => exact ⟨.inr h.1, h.2⟩
     | fam T e wd xss => exact ⟨.inr h.1, h.2⟩
   obtain ⟨h1, h2⟩ := kill_spec key.2
   refine ⟨by simp [h1], fun b q hb => ?_⟩
   cases b with
   | zero =>
     simp at hb
     subst hb
     rcases key.1 with h | h
     · exact .inl h
     · exact .inr (by simp [h])
   | succ b => simpa using h2 b q (by simpa using hb)
theorem wake_spec : ∀ {Hd H H' : List Blk}, Hd.length = H.length → Hd.length ≤ H'.length → (wake Hd H H').length = H'.length ∧ ∀ (b : Nat) k, (wake Hd H H')[b]? = some k →
   (b < Hd.length ∧ Hd[b]? = some .dead ∧ H[b]? = some k) ∨ (Hd[b]? ≠ some .dead ∧ H'[b]? = some k)
 | [], H, H', _, _ => ⟨rfl, fun b k h => .inr ⟨by simp, h⟩⟩
 | _ :: _, [], _, h, _ => by simp at h
 | _ :: _, _ :: _, [], _, h => by simp at h
 | k0 :: r, k1 :: r1, k2 :: r2, hl, hl' => by
   obtain ⟨h1, h2⟩ := wake_spec (Hd := r) (H := r1) (H' := r2) (by simpa using hl) (by simpa using hl')
   cases hd : k0.live with
   | false =>
     obtain rfl : k0 = .dead := by cases k0 <;> first | rfl | cases hd
     refine ⟨by simp [wake, h1], fun b k hb => ?_⟩
     cases b with
     | zero => exact .inl ⟨by simp, rfl, by simpa [wake] using hb⟩
     | succ b =>
       rcases h2 b k (by simpa [wake] using hb) with ⟨a, c, d⟩ | ⟨a, c⟩
       · exact .inl ⟨by simpa using a, by simpa using c, by simpa using d⟩
       · exact .inr ⟨by simpa using a, by simpa using c⟩
   | true =>
     have hw : wake (k0 :: r) (k1 :: r1) (k2 :: r2) = k2 :: wake r r1 r2 := by cases k0 <;> first | rfl | cases hd
     rw [hw]
     refine ⟨by simp [h1], fun b k hb => ?_⟩
     cases b with
     | zero => exact .inr ⟨fun h => by simp at h; rw [h] at hd; exact Bool.noConfusion hd, by simpa using hb⟩
     | succ b =>
       rcases h2 b k (by simpa using hb) with ⟨a, c, d⟩ | ⟨a, c⟩
       · exact .inl ⟨by simpa using a, by simpa using c, by simpa using d⟩
       · exact .inr ⟨by simpa using a, by simpa using c⟩
theorem CallsA.wake {P : Program} {w0 : World} {f : FuncId} {args : List A1} {Hd H : List Blk} {Rd R : AV → List Blk → Prop} (hk : kill Hd H) (h : CallsA P w0 f args Hd Rd) (hR : ∀ r H', Rd r H' → R r (Go.Vc.wake Hd H H')) : CallsA P w0 f args H R := by
 obtain ⟨k1, k2⟩ := kill_spec hk
 refine ⟨h.cal, fun ρ w vs hRH hA => ?_⟩
 have hget : ∀ (b : Nat) k, Hd[b]? = some k → k.live = true → H[b]? = some k := fun b k hb hl => by
   rcases k2 b k hb with rfl | h
   · cases hl
   · exact h
 have hR0 : RH w0 ρ Hd w := ⟨by rw [hRH.len, k1], fun b k e hb he => (k2 b k hb).elim (fun h => h ▸ trivial) (fun h => hRH.ok b k e h he), fun b b' k k' g hb hb' l l' a a' => hRH.inj b b' k k' g (hget b k hb l) (hget b' k' hb' l') l l' a a', fun g ⟨b, k, hb, hl, hg⟩ => hRH.lo g ⟨b, k, hget b k hb hl, hl, hg⟩, hRH.base⟩
 have himg0 : ∀ g, image ρ Hd g → image ρ H g := fun g ⟨b, k, hb, hl, hg⟩ => ⟨b, k, hget b k hb hl, hl, hg⟩
 refine (h.out ρ w vs hR0 hA).mono fun e w' he => ?_
 obtain ⟨r, H', ρ', v, hr, rfl, hv, hRH', ⟨t, rfl⟩, hfr, himg⟩ := he
 have hlt : Hd.length ≤ H'.length := by
   have := hRH'.len
   have := hR0.len
   simp at *
   omega
 obtain ⟨w1, w2⟩ := wake_spec k1 hlt
 -- a block that was kept
 have hkeep : ∀ (b : Nat) k, b < Hd.length → Hd[b]? = some .dead → H[b]? = some k → k.live = true → ∀ g, Ren.own (ρ ++ t) b g → ρ.own b g ∧ ¬ image ρ Hd g ∧ g < w.heap.size := by
   intro b k hb hd hk hl g hg
   rw [own_append (by rw [hRH.len, ← k1]; exact hb)] at hg
   refine ⟨hg, fun ⟨b', k', hb', hl', hg'⟩ => ?_, (hRH.lo g ⟨b, k, hk, hl, hg⟩).2⟩
   have := hRH.inj b b' k k' g hk (hget b' k' hb' hl') hl hl' hg hg'
   subst this
   rw [hd] at hb'
   cases hb'
   cases hl'
 refine ⟨r, _, ρ ++ t, v, hR r H' hr, rfl, hv, ⟨by rw [w1]; exact hRH'.len, fun b k e hb he => ?_, fun b b' k k' g hb hb' l l' a a' => ?_, fun g hg => ?_, hRH'.base⟩, ⟨t, rfl⟩, ⟨hfr.1, hfr.2.1, hfr.2.2.1, hfr.2.2.2.1, fun i hi hn => hfr.2.2.2.2 i hi fun him => hn (himg0 i him)⟩, fun g hg => ?_⟩
 · rcases w2 b k hb with ⟨a, c, d⟩ | ⟨_, c⟩
   · have hbl : b < ρ.length := by rw [hRH.len, ← k1]; exact a
     rw [List.getElem?_append_left hbl] at he
     cases hl : k.live with
     | false =>
       obtain rfl : k = .dead := by cases k <;> first | rfl | cases hl
       trivial
     | true =>
       refine ((hRH.ok b k e d he).keep fun g hg _ => ?_).more t
       obtain ⟨h1, h2, h3⟩ := hkeep b k a c d hl g (by rw [own_append hbl]; exact own_of he hg)
       exact hfr.2.2.2.2 g h3 h2
   · exact hRH'.ok b k e c he
 · rcases w2 b k hb with ⟨a1, c1, d1⟩ | ⟨_, c1⟩ <;> rcases w2 b' k' hb' with ⟨a2, c2, d2⟩ | ⟨_, c2⟩
   · obtain ⟨o1, _, _⟩ := hkeep b k a1 c1 d1 l g a
     obtain ⟨o2, _, _⟩ := hkeep b' k' a2 c2 d2 l' g a'
     exact hRH.inj b b' k k' g d1 d2 l l' o1 o2
   · obtain ⟨_, o2, o3⟩ := hkeep b k a1 c1 d1 l g a
     rcases himg g ⟨b', k', c2, l', a'⟩ with h | h
     · exact absurd h o2
     · omega
   · obtain ⟨_, o2, o3⟩ := hkeep b' k' a2 c2 d2 l' g a'
     rcases himg g ⟨b, k, c1, l, a⟩ with h | h
     · exact absurd h o2
     · omega
   · exact hRH'.inj b b' k k' g c1 c2 l l' a a'
 · obtain ⟨b, k, hb, hl, hg⟩ := hg
   rcases w2 b k hb with ⟨a, c, d⟩ | ⟨_, c⟩
   · obtain ⟨o1, _, o3⟩ := hkeep b k a c d hl g hg
     exact ⟨(hRH.lo g ⟨b, k, d, hl, o1⟩).1, Nat.lt_of_lt_of_le o3 hfr.2.2.2.1⟩
   · exact hRH'.lo g ⟨b, k, c, hl, hg⟩
 · obtain ⟨b, k, hb, hl, hg⟩ := hg
   rcases w2 b k hb with ⟨a, c, d⟩ | ⟨_, c⟩
   · exact .inl ⟨b, k, d, hl, (hkeep b k a c d hl g hg).1⟩
   · rcases himg g ⟨b, k, c, hl, hg⟩ with h | h
     · exact .inl (himg0 g h)
     · exact .inr h
theorem CallsA.liftK {P : Program} {w0 : World} {f : FuncId} {args0 args : List A1} {H0 H : List Blk} {R0 R : AV → List Blk → Prop} (σ : List Nat) (Hd : List Blk) (hk : kill Hd H) (hσn : nodupB σ = true) (hemb : embH σ Hd H0 σ) (hargs : args0.map (A1.ren σ) = args) (h : CallsA P w0 f args0 H0 R0)
   (hR : ∀ r0 H0', R0 r0 H0' → R (r0.ren (widen σ Hd H0')) (Go.Vc.wake Hd H (putAll σ (H0'.map (Blk.ren (widen σ Hd H0'))) Hd))) : CallsA P w0 f args H R :=
 CallsA.wake (Rd := fun r H' => ∃ r0 H0', R0 r0 H0' ∧ r = r0.ren (widen σ Hd H0') ∧ H' = putAll σ (H0'.map (Blk.ren (widen σ Hd H0'))) Hd) hk
   (CallsA.lift σ hσn hemb hargs h fun r0 H0' hr => ⟨r0, H0', hr, rfl, rfl⟩) (by
     rintro _ _ ⟨r0, H0', hr, rfl, rfl⟩
     exact hR r0 H0' hr)
theorem CallsA.ghost {P : Program} {w0 : World} {f : FuncId} {args : List A1} {H H1 : List Blk} {R : AV → List Blk → Prop} (hg : Ghost w0 H H1) (h : CallsA P w0 f args H1 R) : CallsA P w0 f args H R := by
 refine ⟨h.cal, fun ρ w vs hRH hA => ?_⟩
 obtain ⟨t, h1, h2⟩ := hg ρ w hRH
 refine (h.out (ρ ++ t) w vs h1 (hA.mono fun _ _ => A1.R.more t)).mono fun e w' he => ?_
 obtain ⟨r, H', ρ', v, hr, rfl, hv, hRH', ⟨u, rfl⟩, hfr, himg⟩ := he
 exact ⟨r, H', _, v, hr, rfl, hv, hRH', ⟨t ++ u, by rw [List.append_assoc]⟩, ⟨hfr.1, hfr.2.1, hfr.2.2.1, hfr.2.2.2.1, fun i hi hn => hfr.2.2.2.2 i hi fun him => hn (h2 i him)⟩, fun g hgi => (himg g hgi).imp (h2 g) id⟩
theorem Ghost.empty {w0 : World} {H : List Blk} (b : Nat) {α β : Type} {wr : Bool} {T : TypeId} {e : Enc α} {bs : List Nat} {wd : Nat} (e2 : Enc β) (bs2 : List Nat) (hb : H[b]? = some (.vec wr T e bs wd [])) (h2 : ∀ x, (e2.f bs2 x).length = wd) :
   Ghost w0 H (H.set b (.vec wr T e2 bs2 wd ([] : List β))) := fun ρ w h => by
 have hlt : b < H.length := (List.getElem?_eq_some_iff.1 hb).1
 have hget : ∀ (i : Nat) k, (H.set b (.vec wr T e2 bs2 wd ([] : List β)))[i]? = some k → (i = b ∧ k = .vec wr T e2 bs2 wd ([] : List β)) ∨ (i ≠ b ∧ H[i]? = some k) := by
   intro i k hi
   by_cases hib : i = b
   · subst hib
     rw [List.getElem?_set_self hlt] at hi
     exact .inl ⟨rfl, (Option.some.inj hi).symm⟩
   · rw [List.getElem?_set_ne (fun h => hib h.symm)] at hi
     exact .inr ⟨hib, hi⟩
 have hold : ∀ (i : Nat) k, (H.set b (.vec wr T e2 bs2 wd ([] : List β)))[i]? = some k → k.live = true → ∃ k0, H[i]? = some k0 ∧ k0.live = true := by
   intro i k hi hl
   rcases hget i k hi with ⟨rfl, rfl⟩ | ⟨_, h⟩
   · exact ⟨_, hb, rfl⟩
   · exact ⟨k, h, hl⟩
 have himg : ∀ g, image ρ (H.set b (.vec wr T e2 bs2 wd ([] : List β))) g → image ρ H g := fun g ⟨i, k, hi, hl, hg⟩ => by
   obtain ⟨k0, a, c⟩ := hold i k hi hl
   exact ⟨i, k0, a, c, hg⟩
 have key : RH w0 ρ (H.set b (.vec wr T e2 bs2 wd ([] : List β))) w := by
   refine ⟨by rw [List.length_set]; exact h.len, fun i k en hi he => ?_, fun i i' k k' g hi hi' l l' a a' => ?_, fun g hg => h.lo g (himg g hg), h.base⟩
   · rcases hget i k hi with ⟨rfl, rfl⟩ | ⟨_, h1⟩
     · obtain ⟨r0, _, r2⟩ := h.ok i _ en hb he
       refine ⟨r0, h2, ?_⟩
       rcases r2 with ⟨q1, _, q3⟩ | ⟨g, arr, fz, q1, q2, q3, _, q5, ⟨sp, q6, q7⟩, q8⟩
       · exact .inl ⟨q1, rfl, q3⟩
       · exact .inr ⟨g, arr, fz, q1, q2, q3, Nat.zero_le _, q5, ⟨sp, q6, q7⟩, q8⟩
     · exact h.ok i k en h1 he
   · obtain ⟨k0, a1, a2⟩ := hold i k hi l
     obtain ⟨k0', b1, b2⟩ := hold i' k' hi' l'
     exact h.inj i i' k0 k0' g a1 b1 a2 b2 a a'
 exact ⟨[], by rw [List.append_nil]; exact key, fun g hg => by rw [List.append_nil] at hg; exact himg g hg⟩
end Go.Vc

end
section
namespace Go.Proofs.YtokkphocaloelaaGreatDoor
open Go Go.Vc
set_option maxRecDepth 100000
set_option maxHeartbeats 8000000

structure Errs (w0 : World) (t : TypeId) (v : Nat → Value) : Prop where
 get : ∀ k, k < 12 → k ≠ 3 → k ≠ 6 → w0.cell? (Addr.mk k 0 none) = some (.iface t (v k))
 eq0 : ∀ k, k < 12 → k ≠ 3 → k ≠ 6 → ieqOf Tryz.prog w0 71 (.iface t (v k)) (.iface t (v 0)) (decide (k = 0))
 nil0 : ieqOf Tryz.prog w0 71 .nilIface (.iface t (v 0)) false
def rowB (l : List Int) : Blk := .vec true 5 (encI .u8) [] 1 l
def datB (l : List Int) : Blk := .vec false 5 (encI .u8) [] 1 l
theorem byt_at {l : List Int} (h : Byt l) {i : Nat} (hi : i < l.length) : ∃ a : Nat, l[i]? = some (a : Int) ∧ a < 256 := by
 have hx := h l[i] (List.getElem_mem hi)
 exact ⟨l[i].toNat, by rw [List.getElem?_eq_getElem hi]; congr 1; omega, by omega⟩
theorem lorS {x y s : Nat} (hx : x < 2 ^ s) : x ||| y * 2 ^ s = x + y * 2 ^ s := by
 rw [Nat.or_comm, Nat.mul_comm y, ← Nat.two_pow_add_eq_or_of_lt hx, Nat.add_comm]
theorem orS64 {x y s : Nat} (hx : x < 2 ^ s) (hy : y < 256) (hs : s ≤ 56) : IntKind.u64.wrap (((BitVec.ofInt IntKind.u64.bits (x : Int) ||| BitVec.ofInt IntKind.u64.bits (IntKind.u64.wrap (IntKind.u64.wrap (y : Int) * (2 : Int) ^ min s IntKind.u64.bits))).toNat : Nat) : Int) = ((x + y * 2 ^ s : Nat) : Int) := by
 have h56 : 2 ^ s ≤ 2 ^ 56 := Nat.pow_le_pow_right (by omega) hs
 have hm : y * 2 ^ s ≤ 255 * 2 ^ 56 := Nat.mul_le_mul (by omega) h56
 rw [nwrap64 (n := y) (by omega), nshl64 y s (by omega), nwrap64 (n := y * 2 ^ s) (by omega), nor64 (by omega) (by omega), lorS hx]
theorem orS32 {x y s : Nat} (hx : x < 2 ^ s) (hy : y < 256) (hs : s ≤ 24) : IntKind.u32.wrap (((BitVec.ofInt IntKind.u32.bits (x : Int) ||| BitVec.ofInt IntKind.u32.bits (IntKind.u32.wrap (IntKind.u32.wrap (y : Int) * (2 : Int) ^ min s IntKind.u32.bits))).toNat : Nat) : Int) = ((x + y * 2 ^ s : Nat) : Int) := by
 have h56 : 2 ^ s ≤ 2 ^ 24 := Nat.pow_le_pow_right (by omega) hs
 have hm : y * 2 ^ s ≤ 255 * 2 ^ 24 := Nat.mul_le_mul (by omega) h56
 rw [nwrap32 (n := y) (by omega), nshl32 y s (by omega), nwrap32 (n := y * 2 ^ s) (by omega), nor32 (by omega) (by omega), lorS hx]
theorem av64 {x y : Int} (h : x = y) : AV.o (A1.c (CV.val (.int .u64 x))) = AV.o (A1.c (CV.val (.int .u64 y))) := by rw [h]
theorem av32 {x y : Int} (h : x = y) : AV.o (A1.c (CV.val (.int .u32 x))) = AV.o (A1.c (CV.val (.int .u32 y))) := by rw [h]
theorem take_n4 {l : List Int} {o : Nat} {a0 a1 a2 a3 : Int} (h0 : l[o]? = some a0) (h1 : l[o + 1]? = some a1) (h2 : l[o + 2]? = some a2) (h3 : l[o + 3]? = some a3) : (l.drop o).take 4 = [a0, a1, a2, a3] := by
 apply List.ext_getElem?
 intro i
 rw [List.getElem?_take, List.getElem?_drop]
 match i with
 | 0 => exact h0
 | 1 => exact h1
 | 2 => exact h2
 | 3 => exact h3
 | i + 4 => rw [if_neg (by omega)]; rfl
theorem take_n8 {l : List Int} {o : Nat} {a0 a1 a2 a3 a4 a5 a6 a7 : Int} (h0 : l[o]? = some a0) (h1 : l[o + 1]? = some a1) (h2 : l[o + 2]? = some a2) (h3 : l[o + 3]? = some a3) (h4 : l[o + 4]? = some a4) (h5 : l[o + 5]? = some a5) (h6 : l[o + 6]? = some a6) (h7 : l[o + 7]? = some a7) :
   (l.drop o).take 8 = [a0, a1, a2, a3, a4, a5, a6, a7] := by
 apply List.ext_getElem?
 intro i
 rw [List.getElem?_take, List.getElem?_drop]
 match i with
 | 0 => exact h0
 | 1 => exact h1
 | 2 => exact h2
 | 3 => exact h3
 | 4 => exact h4
 | 5 => exact h5
 | 6 => exact h6
 | 7 => exact h7
 | i + 8 => rw [if_neg (by omega)]; rfl
theorem le32W (w0 : World) {l : List Int} (hl : Byt l) {o c : Nat} (h : o + 4 ≤ l.length) : CallsA Tryz.prog w0 93 [.a [], .c (.sli 0 1 o 4 c)] [rowB l] fun r H => r = .o (.c (.val (.int .u32 ((le ((l.drop o).take 4) : Nat) : Int)))) ∧ H = [rowB l] := by
 obtain ⟨a0, h0, l0⟩ := byt_at hl (i := o) (by omega)
 obtain ⟨a1, h1, l1⟩ := byt_at hl (i := o + 1) (by omega)
 obtain ⟨a2, h2, l2⟩ := byt_at hl (i := o + 2) (by omega)
 obtain ⟨a3, h3, l3⟩ := byt_at hl (i := o + 3) (by omega)
 rw [take_n4 h0 h1 h2 h3]
 refine callsA_of_ev c93_ ?_
 conv => whnf
 refine ⟨⟨by decide, by decide⟩, ?_⟩
 conv => whnf
 refine ⟨_, h3, ?_⟩
 conv => whnf
 refine ⟨⟨by decide, by decide⟩, ?_⟩
 conv => whnf
 refine ⟨_, h0, ?_⟩
 conv => whnf
 refine ⟨⟨by decide, by decide⟩, ?_⟩
 conv => whnf
 refine ⟨_, h1, ?_⟩
 conv => whnf
 refine ⟨⟨by decide, by decide⟩, ?_⟩
 conv => whnf
 refine ⟨_, h2, ?_⟩
 conv => whnf
 refine ⟨⟨by decide, by decide⟩, ?_⟩
 conv => whnf
 refine ⟨_, h3, ?_⟩
 conv => whnf
 refine Or.inr ⟨[0], .o (.c (.val (.int .u32 ((le [(a0 : Int), (a1 : Int), (a2 : Int), (a3 : Int)] : Nat) : Int)))), [rowB l], ⟨rfl, ⟨rfl, rfl, trivial⟩, rfl⟩, ?_, rfl, rfl⟩
 refine av32 ?_
 rw [nwrap32 (n := a0) (by omega), orS32 (x := a0) (y := a1) (s := 8) (by omega) l1 (by omega), orS32 (y := a2) (s := 16) (by omega) l2 (by omega), orS32 (y := a3) (s := 24) (by omega) l3 (by omega)]
 simp only [le, Int.toNat_natCast]
 omega
theorem le64W (w0 : World) {l : List Int} (hl : Byt l) {o c : Nat} (h : o + 8 ≤ l.length) : CallsA Tryz.prog w0 92 [.a [], .c (.sli 0 1 o 8 c)] [rowB l] fun r H => r = .o (.c (.val (.int .u64 ((le ((l.drop o).take 8) : Nat) : Int)))) ∧ H = [rowB l] := by
 obtain ⟨a0, h0, l0⟩ := byt_at hl (i := o) (by omega)
 obtain ⟨a1, h1, l1⟩ := byt_at hl (i := o + 1) (by omega)
 obtain ⟨a2, h2, l2⟩ := byt_at hl (i := o + 2) (by omega)
 obtain ⟨a3, h3, l3⟩ := byt_at hl (i := o + 3) (by omega)
 obtain ⟨a4, h4, l4⟩ := byt_at hl (i := o + 4) (by omega)
 obtain ⟨a5, h5, l5⟩ := byt_at hl (i := o + 5) (by omega)
 obtain ⟨a6, h6, l6⟩ := byt_at hl (i := o + 6) (by omega)
 obtain ⟨a7, h7, l7⟩ := byt_at hl (i := o + 7) (by omega)
 rw [take_n8 h0 h1 h2 h3 h4 h5 h6 h7]
 refine callsA_of_ev c92_ ?_
 conv => whnf
 refine ⟨⟨by decide, by decide⟩, ?_⟩
 conv => whnf
 refine ⟨_, h7, ?_⟩
 conv => whnf
 refine ⟨⟨by decide, by decide⟩, ?_⟩
 conv => whnf
 refine ⟨_, h0, ?_⟩
 conv => whnf
 refine ⟨⟨by decide, by decide⟩, ?_⟩
 conv => whnf
 refine ⟨_, h1, ?_⟩
 conv => whnf
 refine ⟨⟨by decide, by decide⟩, ?_⟩
 conv => whnf
 refine ⟨_, h2, ?_⟩
 conv => whnf
 refine ⟨⟨by decide, by decide⟩, ?_⟩
 conv => whnf
 refine ⟨_, h3, ?_⟩
 conv => whnf
 refine ⟨⟨by decide, by decide⟩, ?_⟩
 conv => whnf
 refine ⟨_, h4, ?_⟩
 conv => whnf
 refine ⟨⟨by decide, by decide⟩, ?_⟩
 conv => whnf
 refine ⟨_, h5, ?_⟩
 conv => whnf
 refine ⟨⟨by decide, by decide⟩, ?_⟩
 conv => whnf
 refine ⟨_, h6, ?_⟩
 conv => whnf
 refine ⟨⟨by decide, by decide⟩, ?_⟩
 conv => whnf
 refine ⟨_, h7, ?_⟩
 conv => whnf
 refine Or.inr ⟨[0], .o (.c (.val (.int .u64 ((le [(a0 : Int), (a1 : Int), (a2 : Int), (a3 : Int), (a4 : Int), (a5 : Int), (a6 : Int), (a7 : Int)] : Nat) : Int)))), [rowB l], ⟨rfl, ⟨rfl, rfl, trivial⟩, rfl⟩, ?_, rfl, rfl⟩
 refine av64 ?_
 rw [nwrap64 (n := a0) (by omega), orS64 (x := a0) (y := a1) (s := 8) (by omega) l1 (by omega), orS64 (y := a2) (s := 16) (by omega) l2 (by omega), orS64 (y := a3) (s := 24) (by omega) l3 (by omega), orS64 (y := a4) (s := 32) (by omega) l4 (by omega), orS64 (y := a5) (s := 40) (by omega) l5 (by omega), orS64 (y := a6) (s := 48) (by omega) l6 (by omega), orS64 (y := a7) (s := 56) (by omega) l7 (by omega)]
 simp only [le, Int.toNat_natCast]
 omega
end Go.Proofs.YtokkphocaloelaaGreatDoor

end
section
namespace Go.Proofs.YtokkphocaloelaaGreatDoor
open Go Go.Vc
set_option maxRecDepth 100000
set_option maxHeartbeats 8000000

abbrev Sr := Option (Nat × Nat × Nat)
def Sr.cv (i : Nat) (L : List Int) : Sr → CV
 | none => .vec i L.length
 | some (o, n, c) => .sli i 1 o n c
def Sr.ok (L : List Int) : Sr → Prop
 | none => True
 | some (o, n, _) => o + n ≤ L.length
def Sr.rem (L : List Int) : Sr → List Int
 | none => L
 | some (o, n, _) => (L.drop o).take n
def srcB (i : Nat) (L : List Int) (s : Sr) : Blk := .cells 120 [s.cv i L]
theorem Sr.cv_ren {L : List Int} {σ : List Nat} {i j : Nat} (h : σ[i]? = some j) (s : Sr) : (s.cv i L).ren σ = s.cv j L := by
 cases s with
 | none => simp only [Sr.cv, CV.ren, h]
 | some x =>
   obtain ⟨o, n, c⟩ := x
   simp only [Sr.cv, CV.ren, h]
theorem srcB_ren {L : List Int} {σ : List Nat} {i j : Nat} (h : σ[i]? = some j) (s : Sr) : (srcB i L s).ren σ = srcB j L s := by
 show Blk.cells _ [(s.cv i L).ren σ] = _
 rw [Sr.cv_ren h]
 rfl
theorem srcE {L : List Int} {σ : List Nat} {i j : Nat} (h : σ[i]? = some j) (s : Sr) : some (srcB j L s) = some ((srcB i L s).ren σ) := by rw [srcB_ren h]
theorem srcEE {L : List Int} {σ τ : List Nat} {i i' j : Nat} (h : σ[i]? = some j) (h' : τ[i']? = some j) (s : Sr) : some ((srcB i' L s).ren τ) = some ((srcB i L s).ren σ) := by rw [srcB_ren h, srcB_ren h']
def putAt (xs : List Int) (o : Nat) (ys : List Int) : List Int := xs.take o ++ (ys ++ xs.drop (o + ys.length))
theorem srcReadW {w0 : World} {t : TypeId} {v : Nat → Value} (he : Errs w0 t v) {L xs : List Int} {s : Sr} {o m c : Nat} (hs : s.ok L) (ho : o + m ≤ xs.length) (_hL : L.length ≤ 1099511627776) :
   CallsA Tryz.prog w0 164 [.c (.ptr 0 0), .c (.sli 2 1 o m c)] [srcB 1 L s, datB L, rowB xs] fun r H =>
     (s.rem L = [] ∧ r = .t [.c (.val (.int .i64 ((0 : Nat) : Int))), .c (.val (.iface t (v 0)))] ∧ H = [srcB 1 L s, datB L, rowB xs]) ∨
     (s.rem L ≠ [] ∧ ∃ (s' : Sr) (k : Nat), k = min m (s.rem L).length ∧ s'.ok L ∧ s'.rem L = (s.rem L).drop k ∧ r = .t [.c (.val (.int .i64 ((k : Nat) : Int))), .c (.val .nilIface)] ∧ H = [srcB 1 L s', datB L, rowB (putAt xs o ((s.rem L).take k))]) := by
 refine callsA_of_ev c164_ ?_
 cases s with
 | none =>
   conv => whnf
   refine Or.inl ?_
   conv => whnf
   refine ⟨fun g => ?_, fun g => ?_⟩
   · have g : L.length = 0 := beq_t (b := 0) g
     have hnil : Sr.rem L none = [] := List.eq_nil_of_length_eq_zero g
     conv => whnf
     refine ⟨.iface t (v 0), ?_⟩
     conv => whnf
     refine ⟨he.get 0 (by decide) (by decide) (by decide), ?_⟩
     conv => whnf
     refine ⟨rfl, ?_⟩
     conv => whnf
     exact Or.inl (.inl ⟨hnil, rfl, rfl⟩)
   · have g : L.length ≠ 0 := beq_f (b := 0) g
     have hnil : Sr.rem L none ≠ [] := fun h => g (by rw [show L = [] from h]; rfl)
     conv => whnf
     refine ⟨ho, L.take (min L.length m), ⟨rfl, Nat.min_le_left _ _, by rw [List.length_take]; omega, rfl⟩, ?_⟩
     conv => whnf
     have hk : (L.take (min L.length m)).length = min m L.length := by rw [List.length_take]; omega
     rw [hk]
     obtain ⟨k, hkk⟩ : ∃ k, k = min m L.length := ⟨_, rfl⟩
     have hkq : k = min m (Sr.rem L none).length := hkk
     rw [← hkk] at hk ⊢
     have hkl : k ≤ L.length := by omega
     have hput : (xs.take o ++ (L.take (min L.length m) ++ xs.drop (o + k))) = putAt xs o (L.take k) := by
       unfold putAt
       rw [show min L.length m = k by omega, List.length_take, Nat.min_eq_left hkl]
     rw [hput]
     refine ⟨⟨by omega, by omega, Int.le_refl _⟩, .inl ⟨fun c hc1 hc2 => ?_, fun hl => ?_, fun hl h0 => ?_⟩⟩
     · conv => whnf
       refine Or.inl (.inr ⟨hnil, some (k, L.length - k, c - k), k, hkq, ?_, ?_, rfl, rfl⟩)
       · show k + (L.length - k) ≤ L.length
         omega
       · show (L.drop k).take (L.length - k) = L.drop k
         rw [List.take_of_length_le (by rw [List.length_drop]; omega)]
     · have hl : k = L.length := by omega
       conv => whnf
       refine Or.inl (.inr ⟨hnil, some (0, 0, 0), k, hkq, Nat.zero_le _, ?_, rfl, rfl⟩)
       show [] = L.drop k
       rw [List.drop_of_length_le (by omega)]
     · omega
 | some x =>
   obtain ⟨a, n, c0⟩ := x
   have hs : a + n ≤ L.length := hs
   have hrl : ((L.drop a).take n).length = n := by rw [List.length_take, List.length_drop]; omega
   conv => whnf
   refine Or.inl ?_
   conv => whnf
   refine ⟨fun g => ?_, fun g => ?_⟩
   · have g : n = 0 := beq_t (b := 0) g
     have hnil : Sr.rem L (some (a, n, c0)) = [] := List.eq_nil_of_length_eq_zero (by show ((L.drop a).take n).length = 0; rw [hrl, g])
     conv => whnf
     refine ⟨.iface t (v 0), ?_⟩
     conv => whnf
     refine ⟨he.get 0 (by decide) (by decide) (by decide), ?_⟩
     conv => whnf
     refine ⟨rfl, ?_⟩
     conv => whnf
     exact Or.inl (.inl ⟨hnil, rfl, rfl⟩)
   · have g : n ≠ 0 := beq_f (b := 0) g
     have hnil : Sr.rem L (some (a, n, c0)) ≠ [] := fun h => g (by rw [← hrl, show (L.drop a).take n = [] from h]; rfl)
     conv => whnf
     refine ⟨ho, (L.drop a).take (min n m), ⟨rfl, rfl, by omega, by rw [List.length_take, List.length_drop]; omega, rfl⟩, ?_⟩
     conv => whnf
     have hk : ((L.drop a).take (min n m)).length = min m n := by rw [List.length_take, List.length_drop]; omega
     rw [hk]
     obtain ⟨k, hkk⟩ : ∃ k, k = min m n := ⟨_, rfl⟩
     have hkq : k = min m (Sr.rem L (some (a, n, c0))).length := by rw [show (Sr.rem L (some (a, n, c0))).length = n from hrl]; exact hkk
     rw [← hkk] at hk ⊢
     have hkl : k ≤ n := by omega
     have hput : (xs.take o ++ ((L.drop a).take (min n m) ++ xs.drop (o + k))) = putAt xs o (((L.drop a).take n).take k) := by
       unfold putAt
       rw [show min n m = k by omega, List.take_take, Nat.min_eq_left hkl, List.length_take, List.length_drop, Nat.min_eq_left (by omega)]
     rw [hput]
     refine ⟨⟨by omega, by omega, Int.le_refl _⟩, fun hc => ?_, fun hl hc => ?_⟩
     · conv => whnf
       refine Or.inl (.inr ⟨hnil, some (a + k, n - k, c0 - k), k, hkq, ?_, ?_, rfl, rfl⟩)
       · show a + k + (n - k) ≤ L.length
         omega
       · show (L.drop (a + k)).take (n - k) = ((L.drop a).take n).drop k
         rw [List.drop_take, List.drop_drop]
     · have hl : k = n := by omega
       conv => whnf
       refine Or.inl (.inr ⟨hnil, some (a, 0, 0), k, hkq, by show a + 0 ≤ L.length; omega, ?_, rfl, rfl⟩)
       show [] = ((L.drop a).take n).drop k
       rw [List.drop_of_length_le (by rw [hrl]; omega)]
end Go.Proofs.YtokkphocaloelaaGreatDoor

end
section
namespace Go.Proofs.YtokkphocaloelaaGreatDoor
open Go Go.Vc
set_option maxRecDepth 100000
set_option maxHeartbeats 8000000

theorem src_meth : methOf Tryz.prog 118 "Read" 164 := fun a w => by kernel_rfl
theorem src_nil : nilOk Tryz.prog 118 "Read" := fun a w => by kernel_rfl
def errV (t : TypeId) (v : Nat → Value) (e : Bool) : CV := if e = true then .val (.iface t (v 0)) else .val .nilIface
def rlSt (t : TypeId) (v : Nat → Value) (L : List Int) (m n : Nat) (e : Bool) (s : Sr) (xs : List Int) : S := ⟨[(0, .o (.c (.ifc 118 0 0))), (1, .o (.c (.vec 2 m))), (2, .o (.c (.val (.int .i64 m)))), (6, .o (.c (.val (.int .i64 n)))), (7, .o (.c (errV t v e)))], [srcB 1 L s, datB L, rowB xs]⟩
theorem readAtLeastW {w0 : World} {t : TypeId} {v : Nat → Value} (he : Errs w0 t v) {L xs : List Int} {s : Sr} {m : Nat} (hs : s.ok L) (hx : xs.length = m) (hL : L.length ≤ 1099511627776) (hm : m ≤ 1099511627776) :
   CallsA Tryz.prog w0 121 [.c (.ifc 118 0 0), .c (.vec 2 m), .c (.val (.int .i64 m))] [srcB 1 L s, datB L, rowB xs] fun r H =>
     (m ≤ (s.rem L).length ∧ ∃ s' : Sr, s'.ok L ∧ s'.rem L = (s.rem L).drop m ∧ r = .t [.c (.val (.int .i64 ((m : Nat) : Int))), .c (.val .nilIface)] ∧ H = [srcB 1 L s', datB L, rowB ((s.rem L).take m)]) ∨
     ((s.rem L).length < m ∧ ∃ n k : Nat, k < 2 ∧ (s.rem L = [] → k = 0) ∧ r = .t [.c (.val (.int .i64 ((n : Nat) : Int))), .c (.val (.iface t (v k)))] ∧ H = [.dead, .dead, .dead]) := by
 refine callsA_of_ev c121_ ?_
 conv => whnf
 refine Or.inl ?_
 conv => whnf
 refine ⟨fun g => absurd (lt_t g) (Nat.lt_irrefl _), fun _ => ?_⟩
 conv => whnf
 refine Or.inr ⟨{x : Nat × Bool × Sr × List Int // x.1 ≤ m ∧ x.1 ≤ (s.rem L).length ∧ x.2.2.1.ok L ∧ x.2.2.1.rem L = (s.rem L).drop x.1 ∧ x.2.2.2 = (s.rem L).take x.1 ++ xs.drop x.1 ∧ (x.2.1 = true → x.1 < m ∧ (s.rem L).length ≤ x.1) ∧ (x.1 < m → x.2.1 = true)}, fun ⟨⟨n, e, s', xs'⟩, _⟩ => rlSt t v L m n e s' xs', ?_, fun ⟨⟨n, e, s', xs'⟩, h1, h2, h3, h4, h5, h6, h7⟩ => ?_⟩
 · conv => whnf
   refine ⟨{x : Nat × Bool × Sr × List Int // x.1 ≤ m ∧ x.1 ≤ (s.rem L).length ∧ x.2.2.1.ok L ∧ x.2.2.1.rem L = (s.rem L).drop x.1 ∧ x.2.2.2 = (s.rem L).take x.1 ++ xs.drop x.1 ∧ (x.2.1 = true → x.1 < m ∧ (s.rem L).length ≤ x.1)}, fun ⟨⟨n, e, s', xs'⟩, _⟩ => rlSt t v L m n e s' xs', fun x => 2 * (m - x.1.1) + (if x.1.2.1 = true then 0 else 1),
     ⟨⟨(0, false, s, xs), Nat.zero_le _, Nat.zero_le _, hs, rfl, rfl, fun h => Bool.noConfusion h⟩, [0, 1, 2], ⟨rfl, ⟨srcE (by rfl) _, rfl, rfl, rfl, rfl, rfl, trivial⟩, rfl⟩, rfl, rfl, rfl, rfl, rfl, trivial⟩, fun ⟨⟨n, e, s', xs'⟩, h1, h2, h3, h4, h5, h6⟩ => ?_⟩
   simp only at h1 h2 h3 h4 h5 h6
   have hxl : xs'.length = m := by
     rw [h5, List.length_append, List.length_take, List.length_drop, hx]
     omega
   cases e with
   | true =>
     have h6 := h6 rfl
     conv => whnf
     refine ⟨fun _ => ?_, fun g => absurd (lt_f g) (by omega)⟩
     conv => whnf
     refine ⟨fun g => zF g, fun _ => ?_⟩
     conv => whnf
     exact ⟨⟨(n, true, s', xs'), h1, h2, h3, h4, h5, fun _ => h6, fun _ => rfl⟩, [0, 1, 2], ⟨rfl, ⟨srcE (by rfl) _, rfl, rfl, rfl, rfl, rfl, trivial⟩, rfl⟩, rfl, rfl, rfl, rfl, rfl, trivial⟩
   | false =>
     conv => whnf
     refine ⟨fun g => ?_, fun g => ?_⟩
     · have g : n < m := lt_t g
       conv => whnf
       refine ⟨fun _ => ?_, fun g => zT g⟩
       conv => whnf
       refine ⟨⟨by omega, by omega, Int.le_refl _⟩, .inl ⟨fun c hc1 hc2 => ?_, fun hl => ?_, fun hl h0 => ?_⟩⟩
       · conv => whnf
         refine ⟨src_nil, ?_⟩
         conv => whnf
         refine ⟨164, src_meth, ?_⟩
         conv => whnf
         refine CallsA.lift (H0 := [srcB 1 L s', datB L, rowB xs']) [0, 1, 2] rfl ⟨srcE (by rfl) _, rfl, rfl, rfl, rfl, rfl, trivial⟩ rfl (srcReadW he (o := n) (m := m - n) (c := c - n) h3 (by omega) hL) ?_
         rintro _ _ (⟨hn, rfl, rfl⟩ | ⟨hn, s2, k, hk, hs2, hr2, rfl, rfl⟩)
         · have hlen : (s.rem L).length ≤ n := by
             rw [h4] at hn
             have := congrArg List.length hn
             rw [List.length_drop, List.length_nil] at this
             omega
           refine ⟨trivial, ?_⟩
           conv => whnf
           exact ⟨⟨(n, true, s', xs'), h1, h2, h3, h4, h5, fun _ => ⟨g, hlen⟩⟩, ⟨[0, 1, 2], ⟨rfl, ⟨srcEE (by rfl) (by rfl) _, rfl, rfl, rfl, rfl, rfl, trivial⟩, rfl⟩, rfl, rfl, rfl, eq_i64 (by rw [nadd, nwrapi (by omega)]; rfl), rfl, trivial⟩, by show 2 * (m - n) + 0 < 2 * (m - n) + 1; omega⟩
         · have hrl : (s'.rem L).length = (s.rem L).length - n := by rw [h4, List.length_drop]
           have hrp : 0 < (s'.rem L).length := List.length_pos_iff.2 hn
           refine ⟨trivial, ?_⟩
           conv => whnf
           refine ⟨⟨(n + k, false, s2, putAt xs' n ((s'.rem L).take k)), by show n + k ≤ m; omega, by show n + k ≤ _; omega, hs2, by show s2.rem L = (s.rem L).drop (n + k); rw [hr2, h4, List.drop_drop], ?_, fun h => Bool.noConfusion h⟩, ⟨[0, 1, 2], ⟨rfl, ⟨srcEE (by rfl) (by rfl) _, rfl, rfl, rfl, rfl, rfl, trivial⟩, rfl⟩, rfl, rfl, rfl, eq_i64 (by rw [nadd, nwrapi (by omega)]), rfl, trivial⟩, by show 2 * (m - (n + k)) + 1 < 2 * (m - n) + 1; omega⟩
           show putAt xs' n ((s'.rem L).take k) = (s.rem L).take (n + k) ++ xs.drop (n + k)
           have hkl : ((s'.rem L).take k).length = k := by rw [List.length_take]; omega
           unfold putAt
           rw [hkl, h5, List.take_left' (by rw [List.length_take]; omega), List.drop_append, List.length_take, Nat.min_eq_left h2, List.drop_of_length_le (by rw [List.length_take]; omega), List.nil_append, List.drop_drop, ← List.append_assoc, h4, List.take_add]
           congr 2
           omega
       · omega
       · omega
     · have g : m ≤ n := lt_f g
       conv => whnf
       exact ⟨⟨(n, false, s', xs'), h1, h2, h3, h4, h5, h6, fun h => absurd h (Nat.not_lt.2 g)⟩, [0, 1, 2], ⟨rfl, ⟨srcE (by rfl) _, rfl, rfl, rfl, rfl, rfl, trivial⟩, rfl⟩, rfl, rfl, rfl, rfl, rfl, trivial⟩
 · simp only at h1 h2 h3 h4 h5 h6 h7
   cases e with
   | true =>
     have h6 := h6 rfl
     conv => whnf
     refine Or.inl ?_
     conv => whnf
     refine ⟨fun g => absurd (ge_t g) (by omega), fun _ => ?_⟩
     conv => whnf
     refine ⟨fun g => ?_, fun g => ?_⟩
     · have g : 0 < n := gt_t g
       conv => whnf
       refine ⟨.iface t (v 0), ?_⟩
       conv => whnf
       refine ⟨he.get 0 (by decide) (by decide) (by decide), ?_⟩
       conv => whnf
       refine ⟨rfl, ?_⟩
       conv => whnf
       refine ⟨_, he.eq0 0 (by decide) (by decide) (by decide), ?_⟩
       conv => whnf
       refine ⟨fun _ => ?_, fun g => zT g⟩
       conv => whnf
       refine ⟨.iface t (v 1), ?_⟩
       conv => whnf
       refine ⟨he.get 1 (by decide) (by decide) (by decide), ?_⟩
       conv => whnf
       refine ⟨rfl, ?_⟩
       conv => whnf
       exact Or.inr ⟨[0, 1, 2], .t [.c (.val (.int .i64 ((n : Nat) : Int))), .c (.val (.iface t (v 1)))], [.dead, .dead, .dead], ⟨rfl, ⟨show 0 < 3 by decide, show 1 < 3 by decide, show 2 < 3 by decide, trivial⟩, rfl⟩, rfl, .inr ⟨by omega, n, 1, by decide, fun h => by rw [h] at h2; simp at h2; omega, rfl, rfl⟩⟩
     · have g : n ≤ 0 := gt_f g
       conv => whnf
       exact Or.inr ⟨[0, 1, 2], .t [.c (.val (.int .i64 ((n : Nat) : Int))), .c (.val (.iface t (v 0)))], [.dead, .dead, .dead], ⟨rfl, ⟨show 0 < 3 by decide, show 1 < 3 by decide, show 2 < 3 by decide, trivial⟩, rfl⟩, rfl, .inr ⟨by omega, n, 0, by decide, fun _ => rfl, rfl, rfl⟩⟩
   | false =>
     have hnm : n = m := by
       rcases Nat.lt_or_ge n m with c | c
       · exact Bool.noConfusion (h7 c)
       · omega
     subst hnm
     have hxe : xs' = (s.rem L).take n := by rw [h5, List.drop_of_length_le (by omega), List.append_nil]
     subst hxe
     conv => whnf
     refine Or.inl ?_
     conv => whnf
     refine ⟨fun _ => ?_, fun g => absurd (ge_f g) (Nat.lt_irrefl _)⟩
     conv => whnf
     exact Or.inl (.inl ⟨h2, s', h3, h4, rfl, rfl⟩)
theorem readFullW {w0 : World} {t : TypeId} {v : Nat → Value} (he : Errs w0 t v) {L xs : List Int} {s : Sr} {m : Nat} (hs : s.ok L) (hx : xs.length = m) (hL : L.length ≤ 1099511627776) (hm : m ≤ 1099511627776) :
   CallsA Tryz.prog w0 91 [.c (.ifc 118 0 0), .c (.vec 2 m)] [srcB 1 L s, datB L, rowB xs] fun r H =>
     (m ≤ (s.rem L).length ∧ ∃ s' : Sr, s'.ok L ∧ s'.rem L = (s.rem L).drop m ∧ r = .t [.c (.val (.int .i64 ((m : Nat) : Int))), .c (.val .nilIface)] ∧ H = [srcB 1 L s', datB L, rowB ((s.rem L).take m)]) ∨
     ((s.rem L).length < m ∧ ∃ n k : Nat, k < 2 ∧ (s.rem L = [] → k = 0) ∧ r = .t [.c (.val (.int .i64 ((n : Nat) : Int))), .c (.val (.iface t (v k)))] ∧ H = [.dead, .dead, .dead]) := by
 refine callsA_of_ev c91_ ?_
 conv => whnf
 refine CallsA.lift (H0 := [srcB 1 L s, datB L, rowB xs]) [0, 1, 2] rfl ⟨srcE (by rfl) _, rfl, rfl, rfl, rfl, rfl, trivial⟩ rfl (readAtLeastW he hs hx hL hm) ?_
 rintro _ _ (⟨h1, s', h2, h3, rfl, rfl⟩ | ⟨h1, n, k, h2, h3, rfl, rfl⟩)
 · conv => whnf
   exact Or.inl (.inl ⟨h1, s', h2, h3, rfl, congrArg (fun b => [b, datB L, rowB ((s.rem L).take m)]) (srcB_ren (by rfl) s')⟩)
 · conv => whnf
   exact Or.inl (.inr ⟨h1, n, k, h2, h3, rfl, rfl⟩)
end Go.Proofs.YtokkphocaloelaaGreatDoor

end
section
namespace Go.Proofs.YtokkphocaloelaaGreatDoor
open Go Go.Vc
set_option maxRecDepth 100000
set_option maxHeartbeats 8000000

def tabI (i : Nat) : List Int := ((List.range i).map fun j => ((crcT j : Nat) : Int)) ++ List.replicate (256 - i) 0
def tabL : List Int := (List.range 256).map fun j => ((crcT j : Nat) : Int)
def tabB (l : List Int) : Blk := .vec true 208 (encI .u32) [] 1 l
theorem tabI_len {i : Nat} (h : i ≤ 256) : (tabI i).length = 256 := by
 unfold tabI
 rw [List.length_append, List.length_map, List.length_range, List.length_replicate]
 omega
theorem tabI_set {i : Nat} (h : i < 256) (x : Int) : (tabI i).set i x = ((List.range i).map fun j => ((crcT j : Nat) : Int)) ++ x :: List.replicate (256 - (i + 1)) 0 := by
 unfold tabI
 rw [List.set_append_right _ _ (by simp), List.length_map, List.length_range, Nat.sub_self, show 256 - i = (256 - (i + 1)) + 1 by omega, List.replicate_succ, List.set_cons_zero]
theorem tabI_0 {i : Nat} (h : i < 256) : (tabI i).set i 0 = tabI i := by
 rw [tabI_set h]
 unfold tabI
 rw [show 256 - i = (256 - (i + 1)) + 1 by omega, List.replicate_succ]
theorem tabI_succ {i : Nat} (h : i < 256) : (tabI i).set i ((crcT i : Nat) : Int) = tabI (i + 1) := by
 rw [tabI_set h]
 unfold tabI
 rw [List.range_succ, List.map_append, List.append_assoc]
 rfl
theorem tabI_256 : tabI 256 = tabL := by
 unfold tabI tabL
 rw [Nat.sub_self, List.replicate_zero, List.append_nil]
theorem tabL_at {i : Nat} (h : i < 256) : tabL[i]? = some ((crcT i : Nat) : Int) := by
 unfold tabL
 rw [List.getElem?_map, List.getElem?_range h]
 rfl
def tx (d : Nat) : Nat → Nat
 | 0 => 0
 | k + 1 => crcN (k + 1) d
theorem genTableW (w0 : World) : CallsA Tryz.prog w0 119 [] [] fun r H => r = .o (.c (.ptr 0 0)) ∧ H = [tabB tabL] := by
 refine callsA_of_ev c119_ ?_
 conv => whnf
 refine Or.inr ⟨Int, encI .u32, [], 1, List.replicate 256 0, by decide, fun _ => rfl, rfl, by decide, ?_⟩
 conv => whnf
 refine Or.inr ⟨Unit, fun _ => ⟨[(1, .o (.c (.ptr 0 0)))], [tabB tabL]⟩, ?_, fun _ => ?_⟩
 · conv => whnf
   refine ⟨{i : Nat // i ≤ 256}, fun ⟨i, _⟩ => ⟨[(1, .o (.c (.ptr 0 0))), (4, .o (.c (.val (.int .u32 (i : Nat)))))], [tabB (tabI i)]⟩, fun i => 256 - i.1, ⟨⟨0, Nat.zero_le _⟩, [0], ⟨rfl, ⟨rfl, rfl, trivial⟩, rfl⟩, rfl, rfl, trivial⟩, fun ⟨i, hi⟩ => ?_⟩
   conv => whnf
   refine ⟨fun g => ?_, fun g => ?_⟩
   · have g : i < 256 := lt_t g
     conv => whnf
     refine Or.inr ⟨Unit, fun _ => ⟨[(1, .o (.c (.ptr 0 0))), (4, .o (.c (.val (.int .u32 (i : Nat)))))], [tabB (tabI (i + 1))]⟩, ?_, fun _ => ?_⟩
     · conv => whnf
       refine ⟨{k : Nat // k ≤ 8}, fun ⟨k, _⟩ => ⟨[(1, .o (.c (.ptr 0 0))), (2, .o (.c (.val (.int .u32 (i : Nat))))), (3, .o (.c (.val (.int .u32 (crcN k (i * 16777216) : Nat))))), (4, .o (.c (.val (.int .u32 (i : Nat))))), (9, .o (.c (.val (.int .i64 k))))], [tabB ((tabI i).set i ((tx (i * 16777216) k : Nat) : Int))]⟩, fun k => 8 - k.1, ⟨⟨0, Nat.zero_le _⟩, [0], ⟨rfl, ⟨?_, rfl, trivial⟩, rfl⟩, rfl, rfl, eq_u32 ?_, rfl, rfl, trivial⟩, fun ⟨k, hk⟩ => ?_⟩
       · show some (tabB (tabI i)) = some (tabB ((tabI i).set i ((0 : Nat) : Int)))
         rw [show ((0 : Nat) : Int) = 0 from rfl, tabI_0 g]
       · rw [nshlk .u32 i 24 (by decide), nwrap32 (by omega)]
         rfl
       conv => whnf
       have hkl := crcN_lt (c := i * 16777216) (by omega) k
       refine ⟨fun g2 => ?_, fun g2 => ?_⟩
       · have g2 : k < 8 := lt_t g2
         conv => whnf
         refine Or.inl ?_
         conv => whnf
         refine Or.inl ?_
         conv => whnf
         rw [nand32 hkl (by omega)]
         have hq : crcN (k + 1) (i * 16777216) = crc1 (crcN k (i * 16777216)) := rfl
         have hsh : IntKind.u32.wrap (((crcN k (i * 16777216) : Nat) : Int) * (2 : Int) ^ min 1 IntKind.u32.bits) = ((crcN k (i * 16777216) * 2 % 4294967296 : Nat) : Int) := by
           rw [nshlk .u32 _ 1 (by decide), IntKind.wrap_u32]
           omega
         refine ⟨fun g3 => ?_, fun g3 => ?_⟩
         · have g3 : crcN k (i * 16777216) &&& 2147483648 ≠ 0 := fun h => by simp [h] at g3
           have hval : IntKind.u32.wrap (((BitVec.ofInt IntKind.u32.bits (IntKind.u32.wrap (((crcN k (i * 16777216) : Nat) : Int) * (2 : Int) ^ min 1 IntKind.u32.bits)) ^^^ BitVec.ofInt IntKind.u32.bits ((79764919 : Nat) : Int)).toNat : Nat) : Int) = ((crcN (k + 1) (i * 16777216) : Nat) : Int) := by
             rw [hsh, nxor32 (Nat.mod_lt _ (by decide)) (by omega), hq]
             unfold crc1
             rw [if_pos g3]
             rfl
           conv => whnf
           refine ⟨⟨Int.natCast_nonneg i, show ((i : Nat) : Int) < ((256 : Nat) : Int) by omega⟩, ?_⟩
           conv => whnf
           refine ⟨_, ((crcN (k + 1) (i * 16777216) : Nat) : Int), List.getElem?_eq_getElem (by rw [List.length_set, tabI_len (by omega)]; exact g), ?_, ?_⟩
           · show [CV.val (.int .u32 ((crcN (k + 1) (i * 16777216) : Nat) : Int))] = [CV.val (.int .u32 _)]
             rw [hval]
           conv => whnf
           refine ⟨⟨k + 1, g2⟩, ⟨[0], ⟨rfl, ⟨?_, rfl, trivial⟩, rfl⟩, rfl, rfl, eq_u32 hval, rfl, eq_i64 ?_, trivial⟩, ?_⟩
           · show some (tabB (((tabI i).set i ((tx (i * 16777216) k : Nat) : Int)).set i ((crcN (k + 1) (i * 16777216) : Nat) : Int))) = some (tabB ((tabI i).set i ((crcN (k + 1) (i * 16777216) : Nat) : Int)))
             rw [List.set_set]
           · rw [nadd, nwrapi (by omega)]
           · show 8 - (k + 1) < 8 - k
             omega
         · have g3 : crcN k (i * 16777216) &&& 2147483648 = 0 := by simpa using g3
           have hval : IntKind.u32.wrap (((crcN k (i * 16777216) : Nat) : Int) * (2 : Int) ^ min 1 IntKind.u32.bits) = ((crcN (k + 1) (i * 16777216) : Nat) : Int) := by
             rw [hsh, hq]
             unfold crc1
             rw [if_neg fun h => h g3]
           conv => whnf
           refine ⟨⟨Int.natCast_nonneg i, show ((i : Nat) : Int) < ((256 : Nat) : Int) by omega⟩, ?_⟩
           conv => whnf
           refine ⟨_, ((crcN (k + 1) (i * 16777216) : Nat) : Int), List.getElem?_eq_getElem (by rw [List.length_set, tabI_len (by omega)]; exact g), ?_, ?_⟩
           · show [CV.val (.int .u32 ((crcN (k + 1) (i * 16777216) : Nat) : Int))] = [CV.val (.int .u32 _)]
             rw [hval]
           conv => whnf
           refine ⟨⟨k + 1, g2⟩, ⟨[0], ⟨rfl, ⟨?_, rfl, trivial⟩, rfl⟩, rfl, rfl, eq_u32 hval, rfl, eq_i64 ?_, trivial⟩, ?_⟩
           · show some (tabB (((tabI i).set i ((tx (i * 16777216) k : Nat) : Int)).set i ((crcN (k + 1) (i * 16777216) : Nat) : Int))) = some (tabB ((tabI i).set i ((crcN (k + 1) (i * 16777216) : Nat) : Int)))
             rw [List.set_set]
           · rw [nadd, nwrapi (by omega)]
           · show 8 - (k + 1) < 8 - k
             omega
       · have g2 : 8 ≤ k := lt_f g2
         obtain rfl : k = 8 := by omega
         conv => whnf
         refine ⟨(), ⟨[0], ⟨rfl, ⟨?_, rfl, trivial⟩, rfl⟩, rfl, rfl, trivial⟩⟩
         show some (tabB ((tabI i).set i ((crcT i : Nat) : Int))) = some (tabB (tabI (i + 1)))
         rw [tabI_succ g]
     · conv => whnf
       refine ⟨⟨i + 1, g⟩, ⟨[0], ⟨rfl, ⟨rfl, rfl, trivial⟩, rfl⟩, rfl, eq_u32 ?_, trivial⟩, by show 256 - (i + 1) < 256 - i; omega⟩
       rw [nadd, nwrap32 (by omega)]
   · have g : 256 ≤ i := lt_f g
     obtain rfl : i = 256 := by omega
     conv => whnf
     refine ⟨(), ⟨[0], ⟨rfl, ⟨?_, rfl, trivial⟩, rfl⟩, rfl, trivial⟩⟩
     show some (tabB (tabI 256)) = some (tabB tabL)
     rw [tabI_256]
 · conv => whnf
   exact Or.inl ⟨rfl, rfl⟩
end Go.Proofs.YtokkphocaloelaaGreatDoor

end
section
namespace Go.Proofs.YtokkphocaloelaaGreatDoor
open Go Go.Vc
set_option maxRecDepth 100000
set_option maxHeartbeats 8000000

theorem nxor8 {a b : Nat} (ha : a < 256) (hb : b < 256) : IntKind.u8.wrap (((BitVec.ofInt IntKind.u8.bits (a : Int) ^^^ BitVec.ofInt IntKind.u8.bits (b : Int)).toNat : Nat) : Int) = ((a ^^^ b : Nat) : Int) := by
 have e : (BitVec.ofInt IntKind.u8.bits (a : Int) ^^^ BitVec.ofInt IntKind.u8.bits (b : Int)).toNat = a ^^^ b := by
   show (BitVec.ofInt 8 (a : Int) ^^^ BitVec.ofInt 8 (b : Int)).toNat = _
   rw [BitVec.toNat_xor, BitVec.toNat_ofInt, BitVec.toNat_ofInt]
   congr 1 <;> omega
 rw [e]
 exact nwrap8 (Nat.xor_lt_two_pow (n := 8) ha hb)
def mapV (i : Nat) (m : Bool) : CV := if m = true then .ptr i 0 else .val (.pointer none)
def rdB (a b c d : Nat) (m : Bool) : Blk := .cells 162 [.ifc 118 a 0, .val (.int .i64 0), .ptr b 0, .val (.bool true), .ptr c 0, mapV d m]
theorem rdB_ren {σ : List Nat} {a b c d a' b' c' d' : Nat} (h1 : σ[a]? = some a') (h2 : σ[b]? = some b') (h3 : σ[c]? = some c') (h4 : σ[d]? = some d') (m : Bool) : (rdB a b c d m).ren σ = rdB a' b' c' d' m := by
 cases m <;> simp only [rdB, mapV, Blk.ren, List.map_cons, List.map_nil, CV.ren, h1, h2, h3, h4, if_true, if_false, Bool.false_eq_true]
theorem rdE {σ : List Nat} {a b c d a' b' c' d' : Nat} (h1 : σ[a]? = some a') (h2 : σ[b]? = some b') (h3 : σ[c]? = some c') (h4 : σ[d]? = some d') (m : Bool) : some (rdB a' b' c' d' m) = some ((rdB a b c d m).ren σ) := by rw [rdB_ren h1 h2 h3 h4]
theorem rdEE {σ τ : List Nat} {a b c d a' b' c' d' a2 b2 c2 d2 : Nat} (h1 : σ[a]? = some a') (h2 : σ[b]? = some b') (h3 : σ[c]? = some c') (h4 : σ[d]? = some d') (k1 : τ[a2]? = some a') (k2 : τ[b2]? = some b') (k3 : τ[c2]? = some c') (k4 : τ[d2]? = some d') (m : Bool) : some ((rdB a2 b2 c2 d2 m).ren τ) = some ((rdB a b c d m).ren σ) := by rw [rdB_ren h1 h2 h3 h4, rdB_ren k1 k2 k3 k4]
def sumB (c : Nat) : Blk := .cells 22 [.val (.int .u32 (c : Nat))]
theorem updSumW (w0 : World) {x : Int} {c : Nat} (m : Bool) (hx : 0 ≤ x ∧ x < 256) (hc : c < 4294967296) : CallsA Tryz.prog w0 122 [.c (.val (.int .u8 x)), .c (.ptr 0 0), .c (.ptr 1 0)] [sumB c, .cells 68 [.ptr 2 0], rdB 4 3 5 6 m, tabB tabL, .dead, .dead, .dead] fun r H =>
   r = .t [] ∧ H = [sumB (crcB c x), .cells 68 [.ptr 2 0], rdB 4 3 5 6 m, tabB tabL, .dead, .dead, .dead] := by
 obtain ⟨n, rfl⟩ : ∃ n : Nat, x = (n : Int) := ⟨x.toNat, by omega⟩
 have hn : n < 256 := by omega
 have hd : c / 16777216 < 256 := by omega
 have hxx : c / 16777216 ^^^ n < 256 := Nat.xor_lt_two_pow (n := 8) hd hn
 refine callsA_of_ev c122_ ?_
 conv => whnf
 have h1 : IntKind.u32.wrap (((c : Nat) : Int) * (2 : Int) ^ min 8 IntKind.u32.bits) = ((c % 16777216 * 256 : Nat) : Int) := by
   rw [nshlk .u32 _ 8 (by decide), IntKind.wrap_u32]
   omega
 have h2 : IntKind.u8.wrap (((c : Nat) : Int).fdiv ((2 : Int) ^ min 24 IntKind.u32.bits)) = ((c / 16777216 : Nat) : Int) := by
   rw [nshr32 c 24 (by decide), nwrap8 (by omega)]
 rw [h2, nxor8 hd hn]
 refine ⟨⟨Int.natCast_nonneg _, show ((c / 16777216 ^^^ n : Nat) : Int) < ((256 : Nat) : Int) by omega⟩, ?_⟩
 conv => whnf
 refine ⟨_, tabL_at hxx, ?_⟩
 conv => whnf
 refine ⟨trivial, ?_⟩
 conv => whnf
 refine Or.inl ⟨rfl, ?_⟩
 show [Blk.cells _ [CV.val (.int .u32 _)], _, _, _, _, _, _] = _
 have hT : crcT (c / 16777216 ^^^ n) < 4294967296 := crcN_lt (by omega) 8
 rw [h1, Int.toNat_natCast, nxor32 (by omega) hT, sumB, crcB_tab, Int.toNat_natCast]
def hz (l : List Int) : List Int := l.take 22 ++ [0, 0, 0, 0] ++ l.drop 26
theorem hz_at {l : List Int} (h : l.length = 27) {j : Nat} {x : Int} (hx : l[j]? = some x) (hj : j < 22 ∨ 26 ≤ j) : (hz l)[j]? = some x := by
 unfold hz
 rcases hj with hj | hj
 · rw [List.getElem?_append_left (by simp; omega), List.getElem?_append_left (by simp; omega), List.getElem?_take, if_pos hj, hx]
 · rw [List.getElem?_append_right (by simp; omega), List.getElem?_drop, List.length_append, List.length_take]
   rw [show 26 + (j - (min 22 l.length + [0, 0, 0, (0 : Int)].length)) = j by simp; omega, hx]
theorem hz_mid {l : List Int} (h : l.length = 27) {j : Nat} (h1 : 22 ≤ j) (h2 : j < 26) : (hz l)[j]? = some 0 := by
 unfold hz
 rw [List.getElem?_append_left (by simp; omega), List.getElem?_append_right (by simp; omega), List.length_take, show min 22 l.length = 22 by omega]
 obtain ⟨i, rfl⟩ : ∃ i, j = 22 + i := ⟨j - 22, by omega⟩
 rw [Nat.add_sub_cancel_left]
 match i, h2 with
 | 0, _ => rfl
 | 1, _ => rfl
 | 2, _ => rfl
 | 3, _ => rfl
 | i + 4, h2 => omega
theorem hz_len {l : List Int} (h : l.length = 27) : (hz l).length = 27 := by
 unfold hz
 simp
 omega
theorem hz_byt {l : List Int} (h : Byt l) : Byt (hz l) := ((h.take 22).append (by intro x hx; simp at hx; subst hx; decide)).append (h.drop 26)
theorem crcS_snoc {A l : List Int} {j : Nat} {x : Int} (h : l[j]? = some x) : crcB (crcS (A ++ l.take j)) x = crcS (A ++ l.take (j + 1)) := by
 unfold crcS
 rw [List.foldl_append, List.foldl_append, crcF_snoc h]
theorem crcS_app_lt {A B : List Int} (hA : Byt A) (hB : Byt B) : crcS (A ++ B) < 4294967296 := crcS_lt (hA.append hB)
def outB (f : Nat) (segs : List (List Int)) : Blk := .vec true 74 encF [f] 1 (turns (segs.map List.length))
def segB (segs : List (List Int)) : Blk := .fam 5 (encI .u8) 1 segs
def vaH (m : Bool) (hdr sizes : List Int) (segs : List (List Int)) (c : Nat) : List Blk := [rdB 1 3 4 5 m, .dead, .dead, tabB tabL, .dead, .dead, rowB hdr, rowB sizes, outB 9 segs, segB segs, .cells 68 [.ptr 0 0], sumB c]
def vaE (n k : Nat) : Env := [(1, .o (.c (.vec 6 27))), (2, .o (.c (.vec 7 n))), (3, .o (.c (.vec 8 k))), (9, .o (.c (.ptr 11 0))), (10, .o (.c (.clo 122 [(11, 0), (10, 0)])))]
end Go.Proofs.YtokkphocaloelaaGreatDoor

end
section
namespace Go.Proofs.YtokkphocaloelaaGreatDoor
open Go Go.Vc
set_option maxRecDepth 100000
set_option maxHeartbeats 8000000

theorem validateW {w0 : World} {t : TypeId} {v : Nat → Value} (he : Errs w0 t v) (m : Bool) {hdr sizes : List Int} {segs : List (List Int)} (hh : Byt hdr) (h27 : hdr.length = 27) (hs : Byt sizes) (hsl : sizes.length ≤ 255) (hsg : ∀ l ∈ segs, Byt l ∧ l.length ≤ 255) (hsn : segs.length ≤ 255) :
   CallsA Tryz.prog w0 94 [.c (.ptr 0 0), .c (.vec 6 27), .c (.vec 7 sizes.length), .c (.vec 8 segs.length)] [rdB 1 3 4 5 m, .dead, .dead, tabB tabL, .dead, .dead, rowB hdr, rowB sizes, outB 9 segs, segB segs] fun r H =>
     r = .o (.c (if le ((hdr.drop 22).take 4) = crcS (hz hdr ++ sizes ++ segs.flatten) then .val .nilIface else .val (.iface t (v 5)))) ∧ H = [rdB 1 3 4 5 m, .dead, .dead, tabB tabL, .dead, .dead, rowB hdr, rowB sizes, outB 9 segs, segB segs] := by
 have hzl := hz_len h27
 have hzb := hz_byt hh
 refine callsA_of_ev c94_ ?_
 conv => whnf
 refine Or.inr ⟨Unit, fun _ => ⟨vaE sizes.length segs.length, vaH m hdr sizes segs (crcS (hz hdr))⟩, ?_, fun _ => ?_⟩
 · conv => whnf
   refine ⟨{j : Nat // j ≤ 27}, fun ⟨j, _⟩ => ⟨(17, .o (.c (.vec 6 27))) :: (18, .o (.c (.val (.int .i64 ((27 : Nat) : Int))))) :: (19, .o (.c (.val (.int .i64 (j : Nat))))) :: vaE sizes.length segs.length, vaH m hdr sizes segs (crcS ((hz hdr).take j))⟩, fun j => 27 - j.1, ⟨⟨0, Nat.zero_le _⟩, [0, 1, 2, 3, 4, 5, 6, 7, 8, 9, 10, 11], ⟨rfl, ⟨rdE (by rfl) (by rfl) (by rfl) (by rfl) m, rfl, show 1 < 12 by decide, show 2 < 12 by decide, rfl, rfl, show 4 < 12 by decide, show 5 < 12 by decide, rfl, rfl, rfl, rfl, rfl, rfl, rfl, rfl, rfl, rfl, rfl, rfl, trivial⟩, rfl⟩, rfl, rfl, rfl, rfl, rfl, rfl, rfl, rfl, trivial⟩, fun ⟨j, hj⟩ => ?_⟩
   conv => whnf
   refine ⟨fun g => ?_, fun g => ?_⟩
   · have g : j < 27 := lt_t g
     obtain ⟨x, hx, hxb⟩ := byt_at hh (i := j) (by omega)
     have hc := crcS_lt (hzb.take j)
     conv => whnf
     refine Or.inr ⟨Unit, fun _ => ⟨(17, .o (.c (.vec 6 27))) :: (18, .o (.c (.val (.int .i64 ((27 : Nat) : Int))))) :: (19, .o (.c (.val (.int .i64 (j : Nat))))) :: vaE sizes.length segs.length, vaH m hdr sizes segs (crcS ((hz hdr).take (j + 1)))⟩, ?_, fun _ => ?_⟩
     · conv => whnf
       refine Or.inl ?_
       conv => whnf
       refine ⟨fun g1 => ?_, fun g1 => ?_⟩
       · have g1 : 22 ≤ j := ge_t g1
         conv => whnf
         refine ⟨fun g2 => ?_, fun g2 => ?_⟩
         · have g2 : j < 26 := lt_t g2
           conv => whnf
           refine CallsA.lift (H0 := [sumB (crcS ((hz hdr).take j)), .cells 68 [.ptr 2 0], rdB 4 3 5 6 m, tabB tabL, .dead, .dead, .dead]) [11, 10, 0, 3, 1, 4, 5] rfl ⟨rfl, rfl, rfl, rfl, rdE (by rfl) (by rfl) (by rfl) (by rfl) m, rfl, rfl, rfl, show 1 < 12 by decide, show 4 < 12 by decide, show 5 < 12 by decide, trivial⟩ rfl (updSumW w0 m (x := 0) (by decide) hc) ?_
           rintro _ _ ⟨rfl, rfl⟩
           conv => whnf
           refine ⟨(), [0, 1, 2, 3, 4, 5, 6, 7, 8, 9, 10, 11], ⟨rfl, ⟨rdEE (by rfl) (by rfl) (by rfl) (by rfl) (by rfl) (by rfl) (by rfl) (by rfl) m, rfl, show 1 < 12 by decide, show 2 < 12 by decide, rfl, rfl, show 4 < 12 by decide, show 5 < 12 by decide, rfl, rfl, rfl, rfl, rfl, rfl, rfl, rfl, rfl, rfl, ?_, rfl, trivial⟩, rfl⟩, rfl, rfl, rfl, rfl, rfl, rfl, rfl, rfl, trivial⟩
           show some (sumB (crcB (crcS ((hz hdr).take j)) 0)) = some (sumB (crcS ((hz hdr).take (j + 1))))
           rw [show crcB (crcS ((hz hdr).take j)) 0 = crcS ((hz hdr).take (j + 1)) from crcS_snoc (A := []) (hz_mid h27 g1 g2)]
         · have g2 : 26 ≤ j := lt_f g2
           conv => whnf
           refine ⟨⟨Int.natCast_nonneg j, show ((j : Nat) : Int) < ((27 : Nat) : Int) by omega⟩, ?_⟩
           conv => whnf
           refine ⟨((x : Nat) : Int), ?_⟩
           conv => whnf
           refine ⟨hx, ?_⟩
           conv => whnf
           refine CallsA.lift (H0 := [sumB (crcS ((hz hdr).take j)), .cells 68 [.ptr 2 0], rdB 4 3 5 6 m, tabB tabL, .dead, .dead, .dead]) [11, 10, 0, 3, 1, 4, 5] rfl ⟨rfl, rfl, rfl, rfl, rdE (by rfl) (by rfl) (by rfl) (by rfl) m, rfl, rfl, rfl, show 1 < 12 by decide, show 4 < 12 by decide, show 5 < 12 by decide, trivial⟩ rfl (updSumW w0 m (x := x) (by omega) hc) ?_
           rintro _ _ ⟨rfl, rfl⟩
           conv => whnf
           refine ⟨(), [0, 1, 2, 3, 4, 5, 6, 7, 8, 9, 10, 11], ⟨rfl, ⟨rdEE (by rfl) (by rfl) (by rfl) (by rfl) (by rfl) (by rfl) (by rfl) (by rfl) m, rfl, show 1 < 12 by decide, show 2 < 12 by decide, rfl, rfl, show 4 < 12 by decide, show 5 < 12 by decide, rfl, rfl, rfl, rfl, rfl, rfl, rfl, rfl, rfl, rfl, ?_, rfl, trivial⟩, rfl⟩, rfl, rfl, rfl, rfl, rfl, rfl, rfl, rfl, trivial⟩
           show some (sumB (crcB (crcS ((hz hdr).take j)) x)) = some (sumB (crcS ((hz hdr).take (j + 1))))
           rw [show crcB (crcS ((hz hdr).take j)) x = crcS ((hz hdr).take (j + 1)) from crcS_snoc (A := []) (hz_at h27 hx (.inr g2))]
       · have g1 : j < 22 := ge_f g1
         conv => whnf
         refine ⟨⟨Int.natCast_nonneg j, show ((j : Nat) : Int) < ((27 : Nat) : Int) by omega⟩, ?_⟩
         conv => whnf
         refine ⟨((x : Nat) : Int), ?_⟩
         conv => whnf
         refine ⟨hx, ?_⟩
         conv => whnf
         refine CallsA.lift (H0 := [sumB (crcS ((hz hdr).take j)), .cells 68 [.ptr 2 0], rdB 4 3 5 6 m, tabB tabL, .dead, .dead, .dead]) [11, 10, 0, 3, 1, 4, 5] rfl ⟨rfl, rfl, rfl, rfl, rdE (by rfl) (by rfl) (by rfl) (by rfl) m, rfl, rfl, rfl, show 1 < 12 by decide, show 4 < 12 by decide, show 5 < 12 by decide, trivial⟩ rfl (updSumW w0 m (x := x) (by omega) hc) ?_
         rintro _ _ ⟨rfl, rfl⟩
         conv => whnf
         refine ⟨(), [0, 1, 2, 3, 4, 5, 6, 7, 8, 9, 10, 11], ⟨rfl, ⟨rdEE (by rfl) (by rfl) (by rfl) (by rfl) (by rfl) (by rfl) (by rfl) (by rfl) m, rfl, show 1 < 12 by decide, show 2 < 12 by decide, rfl, rfl, show 4 < 12 by decide, show 5 < 12 by decide, rfl, rfl, rfl, rfl, rfl, rfl, rfl, rfl, rfl, rfl, ?_, rfl, trivial⟩, rfl⟩, rfl, rfl, rfl, rfl, rfl, rfl, rfl, rfl, trivial⟩
         show some (sumB (crcB (crcS ((hz hdr).take j)) x)) = some (sumB (crcS ((hz hdr).take (j + 1))))
         rw [show crcB (crcS ((hz hdr).take j)) x = crcS ((hz hdr).take (j + 1)) from crcS_snoc (A := []) (hz_at h27 hx (.inl g1))]
     · conv => whnf
       exact ⟨⟨j + 1, g⟩, ⟨[0, 1, 2, 3, 4, 5, 6, 7, 8, 9, 10, 11], ⟨rfl, ⟨rdE (by rfl) (by rfl) (by rfl) (by rfl) m, rfl, show 1 < 12 by decide, show 2 < 12 by decide, rfl, rfl, show 4 < 12 by decide, show 5 < 12 by decide, rfl, rfl, rfl, rfl, rfl, rfl, rfl, rfl, rfl, rfl, rfl, rfl, trivial⟩, rfl⟩, rfl, rfl, eq_i64 (by rw [nadd, nwrapi (by omega)]), rfl, rfl, rfl, rfl, rfl, trivial⟩, by show 27 - (j + 1) < 27 - j; omega⟩
   · have g : 27 ≤ j := lt_f g
     obtain rfl : j = 27 := by omega
     have hall : (hz hdr).take 27 = hz hdr := List.take_of_length_le (by omega)
     conv => whnf
     refine ⟨(), [0, 1, 2, 3, 4, 5, 6, 7, 8, 9, 10, 11], ⟨rfl, ⟨rdE (by rfl) (by rfl) (by rfl) (by rfl) m, rfl, show 1 < 12 by decide, show 2 < 12 by decide, rfl, rfl, show 4 < 12 by decide, show 5 < 12 by decide, rfl, rfl, rfl, rfl, rfl, rfl, rfl, rfl, rfl, rfl, ?_, rfl, trivial⟩, rfl⟩, rfl, rfl, rfl, rfl, rfl, trivial⟩
     show some (sumB (crcS ((hz hdr).take 27))) = some (sumB (crcS (hz hdr)))
     rw [hall]
 conv => whnf
 refine Or.inr ⟨Unit, fun _ => ⟨vaE sizes.length segs.length, vaH m hdr sizes segs (crcS (hz hdr ++ sizes))⟩, ?_, fun _ => ?_⟩
 · conv => whnf
   refine ⟨{j : Nat // j ≤ sizes.length}, fun ⟨j, _⟩ => ⟨(37, .o (.c (.vec 7 sizes.length))) :: (38, .o (.c (.val (.int .i64 (sizes.length : Nat))))) :: (39, .o (.c (.val (.int .i64 (j : Nat))))) :: vaE sizes.length segs.length, vaH m hdr sizes segs (crcS (hz hdr ++ sizes.take j))⟩, fun j => sizes.length - j.1, ⟨⟨0, Nat.zero_le _⟩, [0, 1, 2, 3, 4, 5, 6, 7, 8, 9, 10, 11], ⟨rfl, ⟨rdE (by rfl) (by rfl) (by rfl) (by rfl) m, rfl, show 1 < 12 by decide, show 2 < 12 by decide, rfl, rfl, show 4 < 12 by decide, show 5 < 12 by decide, rfl, rfl, rfl, rfl, rfl, rfl, rfl, rfl, rfl, rfl, ?_, rfl, trivial⟩, rfl⟩, rfl, rfl, rfl, rfl, rfl, rfl, rfl, rfl, trivial⟩, fun ⟨j, hj⟩ => ?_⟩
   · show some (sumB (crcS (hz hdr))) = some (sumB (crcS (hz hdr ++ [])))
     rw [List.append_nil]
   conv => whnf
   refine ⟨fun g => ?_, fun g => ?_⟩
   · have g : j < sizes.length := lt_t g
     obtain ⟨x, hx, hxb⟩ := byt_at hs (i := j) g
     have hc := crcS_app_lt hzb (hs.take j)
     conv => whnf
     refine ⟨⟨Int.natCast_nonneg j, Int.ofNat_lt.2 g⟩, ?_⟩
     conv => whnf
     refine ⟨((x : Nat) : Int), ?_⟩
     conv => whnf
     refine ⟨hx, ?_⟩
     conv => whnf
     refine CallsA.lift (H0 := [sumB (crcS (hz hdr ++ sizes.take j)), .cells 68 [.ptr 2 0], rdB 4 3 5 6 m, tabB tabL, .dead, .dead, .dead]) [11, 10, 0, 3, 1, 4, 5] rfl ⟨rfl, rfl, rfl, rfl, rdE (by rfl) (by rfl) (by rfl) (by rfl) m, rfl, rfl, rfl, show 1 < 12 by decide, show 4 < 12 by decide, show 5 < 12 by decide, trivial⟩ rfl (updSumW w0 m (x := x) (by omega) hc) ?_
     rintro _ _ ⟨rfl, rfl⟩
     conv => whnf
     refine ⟨⟨j + 1, g⟩, ⟨[0, 1, 2, 3, 4, 5, 6, 7, 8, 9, 10, 11], ⟨rfl, ⟨rdEE (by rfl) (by rfl) (by rfl) (by rfl) (by rfl) (by rfl) (by rfl) (by rfl) m, rfl, show 1 < 12 by decide, show 2 < 12 by decide, rfl, rfl, show 4 < 12 by decide, show 5 < 12 by decide, rfl, rfl, rfl, rfl, rfl, rfl, rfl, rfl, rfl, rfl, ?_, rfl, trivial⟩, rfl⟩, rfl, rfl, eq_i64 (by rw [nadd, nwrapi (by omega)]), rfl, rfl, rfl, rfl, rfl, trivial⟩, by show sizes.length - (j + 1) < sizes.length - j; omega⟩
     show some (sumB (crcB (crcS (hz hdr ++ sizes.take j)) x)) = some (sumB (crcS (hz hdr ++ sizes.take (j + 1))))
     rw [crcS_snoc hx]
   · have g : sizes.length ≤ j := lt_f g
     have hall : sizes.take j = sizes := List.take_of_length_le g
     conv => whnf
     refine ⟨(), [0, 1, 2, 3, 4, 5, 6, 7, 8, 9, 10, 11], ⟨rfl, ⟨rdE (by rfl) (by rfl) (by rfl) (by rfl) m, rfl, show 1 < 12 by decide, show 2 < 12 by decide, rfl, rfl, show 4 < 12 by decide, show 5 < 12 by decide, rfl, rfl, rfl, rfl, rfl, rfl, rfl, rfl, rfl, rfl, ?_, rfl, trivial⟩, rfl⟩, rfl, rfl, rfl, rfl, rfl, trivial⟩
     show some (sumB (crcS (hz hdr ++ sizes.take j))) = some (sumB (crcS (hz hdr ++ sizes)))
     rw [hall]
 conv => whnf
 refine Or.inr ⟨Unit, fun _ => ⟨vaE sizes.length segs.length, vaH m hdr sizes segs (crcS (hz hdr ++ sizes ++ segs.flatten))⟩, ?_, fun _ => ?_⟩
 · conv => whnf
   refine ⟨{i : Nat // i ≤ segs.length}, fun ⟨i, _⟩ => ⟨(47, .o (.c (.vec 8 segs.length))) :: (48, .o (.c (.val (.int .i64 (segs.length : Nat))))) :: (49, .o (.c (.val (.int .i64 (i : Nat))))) :: vaE sizes.length segs.length, vaH m hdr sizes segs (crcS (hz hdr ++ sizes ++ (segs.take i).flatten))⟩, fun i => segs.length - i.1, ⟨⟨0, Nat.zero_le _⟩, [0, 1, 2, 3, 4, 5, 6, 7, 8, 9, 10, 11], ⟨rfl, ⟨rdE (by rfl) (by rfl) (by rfl) (by rfl) m, rfl, show 1 < 12 by decide, show 2 < 12 by decide, rfl, rfl, show 4 < 12 by decide, show 5 < 12 by decide, rfl, rfl, rfl, rfl, rfl, rfl, rfl, rfl, rfl, rfl, ?_, rfl, trivial⟩, rfl⟩, rfl, rfl, rfl, rfl, rfl, rfl, rfl, rfl, trivial⟩, fun ⟨i, hi⟩ => ?_⟩
   · show some (sumB (crcS (hz hdr ++ sizes))) = some (sumB (crcS (hz hdr ++ sizes ++ [])))
     rw [List.append_nil]
   conv => whnf
   refine ⟨fun g => ?_, fun g => ?_⟩
   · have g : i < segs.length := lt_t g
     obtain ⟨seg, hseg⟩ : ∃ seg, segs[i]? = some seg := ⟨_, List.getElem?_eq_getElem g⟩
     have hsb := hsg seg (List.mem_of_getElem? hseg)
     have hft : (segs.take (i + 1)).flatten = (segs.take i).flatten ++ seg := by
       rw [List.take_add_one, hseg, List.flatten_append]
       simp
     have hrow : (turns (segs.map List.length))[i]? = some (i, seg.length) := by rw [turns_get, List.getElem?_map, hseg]; rfl
     have hfb : Byt ((segs.take i).flatten) := fun y hy => by
       obtain ⟨z, hz1, hz2⟩ := List.mem_flatten.1 hy
       exact (hsg z (List.mem_of_mem_take hz1)).1 y hz2
     conv => whnf
     refine Or.inr ⟨Unit, fun _ => ⟨(47, .o (.c (.vec 8 segs.length))) :: (48, .o (.c (.val (.int .i64 (segs.length : Nat))))) :: (49, .o (.c (.val (.int .i64 (i : Nat))))) :: vaE sizes.length segs.length, vaH m hdr sizes segs (crcS (hz hdr ++ sizes ++ (segs.take (i + 1)).flatten))⟩, ?_, fun _ => ?_⟩
     · conv => whnf
       refine ⟨⟨Int.natCast_nonneg i, Int.ofNat_lt.2 g⟩, ?_⟩
       conv => whnf
       refine ⟨(i, seg.length), ?_⟩
       conv => whnf
       refine ⟨hrow, ?_⟩
       conv => whnf
       refine ⟨{k : Nat // k ≤ seg.length}, fun ⟨k, _⟩ => ⟨(14, .o (.c (.val (.int .i64 (i : Nat))))) :: (56, .o (.c (.val (.int .i64 (seg.length : Nat))))) :: (57, .o (.c (.val (.int .i64 (k : Nat))))) :: (47, .o (.c (.vec 8 segs.length))) :: (48, .o (.c (.val (.int .i64 (segs.length : Nat))))) :: (49, .o (.c (.val (.int .i64 (i : Nat))))) :: vaE sizes.length segs.length, vaH m hdr sizes segs (crcS (hz hdr ++ sizes ++ (segs.take i).flatten ++ seg.take k))⟩, fun k => seg.length - k.1, ⟨⟨0, Nat.zero_le _⟩, [0, 1, 2, 3, 4, 5, 6, 7, 8, 9, 10, 11], ⟨rfl, ⟨rdE (by rfl) (by rfl) (by rfl) (by rfl) m, rfl, show 1 < 12 by decide, show 2 < 12 by decide, rfl, rfl, show 4 < 12 by decide, show 5 < 12 by decide, rfl, rfl, rfl, rfl, rfl, rfl, rfl, rfl, rfl, rfl, ?_, rfl, trivial⟩, rfl⟩, rfl, rfl, rfl, rfl, rfl, rfl, rfl, rfl, rfl, rfl, rfl, trivial⟩, fun ⟨k, hk⟩ => ?_⟩
       · show some (sumB (crcS (hz hdr ++ sizes ++ (segs.take i).flatten))) = some (sumB (crcS (hz hdr ++ sizes ++ (segs.take i).flatten ++ [])))
         rw [List.append_nil]
       conv => whnf
       refine ⟨fun g2 => ?_, fun g2 => ?_⟩
       · have g2 : k < seg.length := lt_t g2
         obtain ⟨x, hx, hxb⟩ := byt_at hsb.1 (i := k) g2
         have hc := crcS_app_lt ((hzb.append hs).append hfb) (hsb.1.take k)
         conv => whnf
         refine ⟨⟨Int.natCast_nonneg i, Int.ofNat_lt.2 g⟩, ?_⟩
         conv => whnf
         refine ⟨(i, seg.length), ?_⟩
         conv => whnf
         refine ⟨hrow, ?_⟩
         conv => whnf
         refine ⟨⟨Int.natCast_nonneg k, Int.ofNat_lt.2 g2⟩, ?_⟩
         conv => whnf
         refine ⟨seg, ((x : Nat) : Int), hseg, hx, ?_⟩
         conv => whnf
         refine CallsA.lift (H0 := [sumB (crcS (hz hdr ++ sizes ++ (segs.take i).flatten ++ seg.take k)), .cells 68 [.ptr 2 0], rdB 4 3 5 6 m, tabB tabL, .dead, .dead, .dead]) [11, 10, 0, 3, 1, 4, 5] rfl ⟨rfl, rfl, rfl, rfl, rdE (by rfl) (by rfl) (by rfl) (by rfl) m, rfl, rfl, rfl, show 1 < 12 by decide, show 4 < 12 by decide, show 5 < 12 by decide, trivial⟩ rfl (updSumW w0 m (x := x) (by omega) hc) ?_
         rintro _ _ ⟨rfl, rfl⟩
         conv => whnf
         refine ⟨⟨k + 1, g2⟩, ⟨[0, 1, 2, 3, 4, 5, 6, 7, 8, 9, 10, 11], ⟨rfl, ⟨rdEE (by rfl) (by rfl) (by rfl) (by rfl) (by rfl) (by rfl) (by rfl) (by rfl) m, rfl, show 1 < 12 by decide, show 2 < 12 by decide, rfl, rfl, show 4 < 12 by decide, show 5 < 12 by decide, rfl, rfl, rfl, rfl, rfl, rfl, rfl, rfl, rfl, rfl, ?_, rfl, trivial⟩, rfl⟩, rfl, rfl, eq_i64 (by rw [nadd, nwrapi (by omega)]), rfl, rfl, rfl, rfl, rfl, rfl, rfl, rfl, trivial⟩, by show seg.length - (k + 1) < seg.length - k; omega⟩
         show some (sumB (crcB (crcS (hz hdr ++ sizes ++ (segs.take i).flatten ++ seg.take k)) x)) = some (sumB (crcS (hz hdr ++ sizes ++ (segs.take i).flatten ++ seg.take (k + 1))))
         rw [crcS_snoc hx]
       · have g2 : seg.length ≤ k := lt_f g2
         have hall : seg.take k = seg := List.take_of_length_le g2
         conv => whnf
         refine ⟨(), [0, 1, 2, 3, 4, 5, 6, 7, 8, 9, 10, 11], ⟨rfl, ⟨rdE (by rfl) (by rfl) (by rfl) (by rfl) m, rfl, show 1 < 12 by decide, show 2 < 12 by decide, rfl, rfl, show 4 < 12 by decide, show 5 < 12 by decide, rfl, rfl, rfl, rfl, rfl, rfl, rfl, rfl, rfl, rfl, ?_, rfl, trivial⟩, rfl⟩, rfl, rfl, rfl, rfl, rfl, rfl, rfl, rfl, trivial⟩
         show some (sumB (crcS (hz hdr ++ sizes ++ (segs.take i).flatten ++ seg.take k))) = some (sumB (crcS (hz hdr ++ sizes ++ (segs.take (i + 1)).flatten)))
         rw [hall, hft, List.append_assoc]
     · conv => whnf
       exact ⟨⟨i + 1, g⟩, ⟨[0, 1, 2, 3, 4, 5, 6, 7, 8, 9, 10, 11], ⟨rfl, ⟨rdE (by rfl) (by rfl) (by rfl) (by rfl) m, rfl, show 1 < 12 by decide, show 2 < 12 by decide, rfl, rfl, show 4 < 12 by decide, show 5 < 12 by decide, rfl, rfl, rfl, rfl, rfl, rfl, rfl, rfl, rfl, rfl, rfl, rfl, trivial⟩, rfl⟩, rfl, rfl, eq_i64 (by rw [nadd, nwrapi (by omega)]), rfl, rfl, rfl, rfl, rfl, trivial⟩, by show segs.length - (i + 1) < segs.length - i; omega⟩
   · have g : segs.length ≤ i := lt_f g
     have hall : segs.take i = segs := List.take_of_length_le g
     conv => whnf
     refine ⟨(), [0, 1, 2, 3, 4, 5, 6, 7, 8, 9, 10, 11], ⟨rfl, ⟨rdE (by rfl) (by rfl) (by rfl) (by rfl) m, rfl, show 1 < 12 by decide, show 2 < 12 by decide, rfl, rfl, show 4 < 12 by decide, show 5 < 12 by decide, rfl, rfl, rfl, rfl, rfl, rfl, rfl, rfl, rfl, rfl, ?_, rfl, trivial⟩, rfl⟩, rfl, rfl, rfl, rfl, rfl, trivial⟩
     show some (sumB (crcS (hz hdr ++ sizes ++ (segs.take i).flatten))) = some (sumB (crcS (hz hdr ++ sizes ++ segs.flatten)))
     rw [hall]
 obtain ⟨C, hC⟩ : ∃ C, C = crcS (hz hdr ++ sizes ++ segs.flatten) := ⟨_, rfl⟩
 obtain ⟨D, hD⟩ : ∃ D, D = le ((hdr.drop 22).take 4) := ⟨_, rfl⟩
 rw [← hC, ← hD]
 conv => whnf
 refine Or.inl ?_
 conv => whnf
 refine ⟨⟨by decide, by decide, by decide⟩, .inl ⟨fun c hc1 hc2 => ?_, fun h => absurd h (by decide), fun h => absurd h (by decide)⟩⟩
 conv => whnf
 refine CallsA.lift (H0 := [rowB hdr]) [6] rfl ⟨rfl, rfl, trivial⟩ rfl (le32W w0 hh (o := 22) (c := c - 22) (by omega)) ?_
 rw [← hD]
 rintro _ _ ⟨rfl, rfl⟩
 refine ⟨⟨⟨rfl, rfl⟩, trivial⟩, ?_⟩
 conv => whnf
 refine ⟨fun g => ?_, fun g => ?_⟩
 · have g : D ≠ C := bne_t g
   conv => whnf
   refine ⟨.iface t (v 5), ?_⟩
   conv => whnf
   refine ⟨he.get 5 (by decide) (by decide) (by decide), ?_⟩
   conv => whnf
   refine ⟨rfl, ?_⟩
   conv => whnf
   refine Or.inr ⟨[0, 1, 2, 3, 4, 5, 6, 7, 8, 9], .o (.c (.val (.iface t (v 5)))), [rdB 1 3 4 5 m, .dead, .dead, tabB tabL, .dead, .dead, rowB hdr, rowB sizes, outB 9 segs, segB segs], ⟨rfl, ⟨rdE (by rfl) (by rfl) (by rfl) (by rfl) m, rfl, show 1 < 12 by decide, show 2 < 12 by decide, rfl, rfl, show 4 < 12 by decide, show 5 < 12 by decide, rfl, rfl, rfl, rfl, rfl, rfl, rfl, rfl, trivial⟩, rfl⟩, rfl, ?_, rfl⟩
   rw [if_neg g]
 · have g : D = C := bne_f g
   conv => whnf
   refine Or.inr ⟨[0, 1, 2, 3, 4, 5, 6, 7, 8, 9], .o (.c (.val .nilIface)), [rdB 1 3 4 5 m, .dead, .dead, tabB tabL, .dead, .dead, rowB hdr, rowB sizes, outB 9 segs, segB segs], ⟨rfl, ⟨rdE (by rfl) (by rfl) (by rfl) (by rfl) m, rfl, show 1 < 12 by decide, show 2 < 12 by decide, rfl, rfl, show 4 < 12 by decide, show 5 < 12 by decide, rfl, rfl, rfl, rfl, rfl, rfl, rfl, rfl, trivial⟩, rfl⟩, rfl, ?_, rfl⟩
   rw [if_pos g]
end Go.Proofs.YtokkphocaloelaaGreatDoor

end
section
namespace Go.Proofs.YtokkphocaloelaaGreatDoor
open Go Go.Vc
set_option maxRecDepth 100000
set_option maxHeartbeats 8000000

def segsI : List Int → List Int → Option (List (List Int) × List Int)
 | [], r => some ([], r)
 | s :: ss, r => if r.length < s.toNat then none else (segsI ss (r.drop s.toNat)).map fun x => (r.take s.toNat :: x.1, x.2)
structure PgI where
 hdr : List Int
 sizes : List Int
 segs : List (List Int)
def pageI (r : List Int) : Option (PgI × List Int) :=
 if r.length < 27 then none else if r.length < 27 + bt r 26 then none else
   match segsI ((r.drop 27).take (bt r 26)) (r.drop (27 + bt r 26)) with
   | none => none
   | some (segs, q) => if le (((r.take 27).drop 22).take 4) = crcS (hz (r.take 27) ++ (r.drop 27).take (bt r 26) ++ segs.flatten) then some (⟨r.take 27, (r.drop 27).take (bt r 26), segs⟩, q) else none
theorem segsI_facts : ∀ (ss r : List Int) {l : List (List Int)} {q : List Int}, segsI ss r = some (l, q) → l.length = ss.length ∧ (Byt r → Byt q ∧ ∀ x ∈ l, Byt x) ∧ (Byt ss → ∀ x ∈ l, x.length ≤ 255) ∧ q.length + l.flatten.length = r.length
 | [], r, l, q, h => by
   simp only [segsI, Option.some.injEq, Prod.mk.injEq] at h
   obtain ⟨rfl, rfl⟩ := h
   exact ⟨rfl, fun hr => ⟨hr, fun x hx => (List.not_mem_nil hx).elim⟩, fun _ x hx => (List.not_mem_nil hx).elim, rfl⟩
 | s :: ss, r, l, q, h => by
   simp only [segsI] at h
   split at h
   · cases h
   · rename_i hn
     obtain ⟨⟨l', q'⟩, h1, h2⟩ := Option.map_eq_some_iff.1 h
     cases h2
     obtain ⟨a, b, c, d⟩ := segsI_facts ss _ h1
     refine ⟨by simp [a], fun hr => ?_, fun hs x hx => ?_, ?_⟩
     · obtain ⟨e, f⟩ := b (hr.drop _)
       exact ⟨e, fun x hx => by
         rcases List.mem_cons.1 hx with rfl | hx
         · exact hr.take _
         · exact f x hx⟩
     · rcases List.mem_cons.1 hx with rfl | hx
       · have := hs s (List.mem_cons_self ..)
         rw [List.length_take]
         omega
       · exact c (fun y hy => hs y (List.mem_cons_of_mem _ hy)) x hx
     · rw [List.length_drop] at d
       rw [List.flatten_cons, List.length_append, List.length_take]
       simp only at d ⊢
       omega
def u8 (l : List Int) (i : Nat) : CV := .val (.int .u8 ((bt l i : Nat) : Int))
def hpB (h : List Int) : Blk := .cells 80 [.val (.int .u64 ((le ((h.drop 6).take 8) : Nat) : Int)), u8 h 0, u8 h 1, u8 h 2, u8 h 3, u8 h 4, u8 h 5, .val (.int .u32 ((le ((h.drop 14).take 4) : Nat) : Int)), .val (.int .u32 ((le ((h.drop 18).take 4) : Nat) : Int)), u8 h 26]
theorem l0 (n : Nat) : 0 < n + 1 := Nat.zero_lt_succ _
theorem l1 (n : Nat) : 1 < n + 2 := by omega
theorem l2 (n : Nat) : 2 < n + 3 := by omega
theorem l3 (n : Nat) : 3 < n + 4 := by omega
theorem l4 (n : Nat) : 4 < n + 5 := by omega
theorem l5 (n : Nat) : 5 < n + 6 := by omega
def pdE (n : Nat) : Env := [(0, .o (.c (.ptr 0 0))), (6, .o (.c (.vec 6 27))), (9, .o (.c (.ptr 7 0))), (10, .o (.c (.vec 8 n)))]
def pdH (m : Bool) (L : List Int) (s : Sr) (h sizes : List Int) : List Blk := [rdB 1 3 4 5 m, srcB 2 L s, datB L, tabB tabL, .dead, .dead, rowB h, hpB h, rowB sizes]
def out0 : Blk := .vec true 74 encF [] 1 ([] : List (Nat × Nat))
def segS (i : Nat) (segs : List (List Int)) : List Blk := match segs with
 | [] => [out0]
 | _ :: _ => [outB (i + 1) segs, segB segs]
def pdN (n i k : Nat) : Env := (11, .o (.c (.vec 9 k))) :: (105, .o (.c (.vec 8 n))) :: (106, .o (.c (.val (.int .i64 (n : Nat))))) :: (107, .o (.c (.val (.int .i64 (i : Nat))))) :: pdE n
theorem segsI_get {ss r : List Int} {i : Nat} {x : Int} (h : ss[i]? = some x) : segsI (ss.drop i) r = if r.length < x.toNat then none else (segsI (ss.drop (i + 1)) (r.drop x.toNat)).map fun y => (r.take x.toNat :: y.1, y.2) := by
 rw [show ss.drop i = x :: ss.drop (i + 1) from List.drop_eq_getElem?_toList_append.trans (by rw [h]; rfl), segsI]
theorem bt_at {l : List Int} (h : Byt l) {i : Nat} (hi : i < l.length) : l[i]? = some ((bt l i : Nat) : Int) := (bt_get h hi).1
theorem pageDataW {w0 : World} {t : TypeId} {v : Nat → Value} (he : Errs w0 t v) (m : Bool) {L : List Int} {s : Sr} (hs : s.ok L) (_hLb : Byt L) (hL : L.length ≤ 1099511627776) (hrb : Byt (s.rem L)) :
   CallsA Tryz.prog w0 54 [.c (.ptr 0 0)] [rdB 1 3 4 5 m, srcB 2 L s, datB L, tabB tabL, .dead, .dead] fun r H => match pageI (s.rem L) with
     | none => ∃ k : Nat, (k = 0 ∨ k = 1 ∨ k = 5) ∧ (s.rem L = [] → k = 0) ∧ r = .t [.c (.val (.slice none 0 0)), .c (.val (.slice none 0 0)), .c (.val (.pointer none)), .c (.val (.iface t (v k)))] ∧ H = [rdB 1 3 4 5 m, .dead, .dead, tabB tabL, .dead, .dead]
     | some (p, q) => ∃ s' : Sr, s'.ok L ∧ s'.rem L = q ∧ r = .t [.c (.vec 8 p.segs.length), .c (.vec 7 p.sizes.length), .c (.ptr 6 0), .c (.val .nilIface)] ∧ H = [rdB 1 3 4 5 m, srcB 2 L s', datB L, tabB tabL, .dead, .dead, hpB p.hdr, rowB p.sizes, outB 9 p.segs, segB p.segs] := by
 obtain ⟨G, hG⟩ : ∃ G, G = pageI (s.rem L) := ⟨_, rfl⟩
 rw [← hG]
 unfold pageI at hG
 obtain ⟨R, hR⟩ : ∃ R, R = s.rem L := ⟨_, rfl⟩
 rw [← hR] at hG hrb ⊢
 refine callsA_of_ev c54_ ?_
 conv => whnf
 refine ⟨⟨by decide, by decide, by decide, by decide, by decide⟩, Int, encI .u8, [], 0, fun _ => rfl, rfl, ?_⟩
 conv => whnf
 refine CallsA.lift (H0 := [srcB 1 L s, datB L, rowB (List.replicate 27 0)]) [1, 2, 6] rfl ⟨srcE (by rfl) _, rfl, rfl, rfl, rfl, rfl, trivial⟩ rfl (readFullW he hs (m := 27) (List.length_replicate ..) hL (by omega)) ?_
 rw [← hR]
 rintro _ _ (⟨h1, s1, hs1, hr1, rfl, rfl⟩ | ⟨h1, n, k, hk, hk0, rfl, rfl⟩)
 case inr =>
   rw [if_pos h1] at hG
   subst hG
   conv => whnf
   refine Or.inl ?_
   conv => whnf
   refine ⟨fun _ => ?_, fun g => zT g⟩
   conv => whnf
   exact Or.inr ⟨[0, 1, 2, 3, 4, 5], .t [.c (.val (.slice none 0 0)), .c (.val (.slice none 0 0)), .c (.val (.pointer none)), .c (.val (.iface t (v k)))], [rdB 1 3 4 5 m, .dead, .dead, tabB tabL, .dead, .dead], ⟨rfl, ⟨rdE (by rfl) (by rfl) (by rfl) (by rfl) m, rfl, l1 _, l2 _, rfl, rfl, l4 _, l5 _, trivial⟩, rfl⟩, rfl, k, (by omega), hk0, rfl, rfl⟩
 rw [if_neg (Nat.not_lt.2 h1)] at hG
 conv => whnf
 refine Or.inl ?_
 conv => whnf
 refine ⟨fun g => zF g, fun _ => ?_⟩
 conv => whnf
 refine ⟨fun g => absurd (lt_t g) (Nat.lt_irrefl _), fun _ => ?_⟩
 conv => whnf
 obtain ⟨h, hh⟩ : ∃ h, h = R.take 27 := ⟨_, rfl⟩
 obtain ⟨n, hn⟩ : ∃ n, n = bt h 26 := ⟨_, rfl⟩
 have hnR : bt R 26 = n := by
   rw [hn, hh]
   unfold bt
   rw [List.getD_eq_getElem?_getD, List.getD_eq_getElem?_getD, List.getElem?_take, if_pos (by decide)]
 rw [hnR, ← hh] at hG
 rw [← hh]
 have hhl : h.length = 27 := by rw [hh, List.length_take]; omega
 have hhb : Byt h := by rw [hh]; exact hrb.take 27
 have hn8 : n < 256 := by rw [hn]; exact bt_lt hhb 26
 have hRne : ∀ k : Nat, R = [] → k = 0 := fun k hR0 => by rw [hR0] at h1; exact absurd h1 (by decide)
 refine ⟨⟨by decide, by decide⟩, ?_⟩
 conv => whnf
 refine ⟨((bt h 0 : Nat) : Int), ?_⟩
 conv => whnf
 refine ⟨bt_at hhb (i := 0) (by omega), ?_⟩
 conv => whnf
 refine ⟨⟨by decide, by decide⟩, ?_⟩
 conv => whnf
 refine ⟨((bt h 1 : Nat) : Int), ?_⟩
 conv => whnf
 refine ⟨bt_at hhb (i := 1) (by omega), ?_⟩
 conv => whnf
 refine ⟨⟨by decide, by decide⟩, ?_⟩
 conv => whnf
 refine ⟨((bt h 2 : Nat) : Int), ?_⟩
 conv => whnf
 refine ⟨bt_at hhb (i := 2) (by omega), ?_⟩
 conv => whnf
 refine ⟨⟨by decide, by decide⟩, ?_⟩
 conv => whnf
 refine ⟨((bt h 3 : Nat) : Int), ?_⟩
 conv => whnf
 refine ⟨bt_at hhb (i := 3) (by omega), ?_⟩
 conv => whnf
 refine ⟨trivial, ?_⟩
 conv => whnf
 refine ⟨⟨by decide, by decide⟩, ?_⟩
 conv => whnf
 refine ⟨((bt h 4 : Nat) : Int), ?_⟩
 conv => whnf
 refine ⟨bt_at hhb (i := 4) (by omega), ?_⟩
 conv => whnf
 refine ⟨⟨by decide, by decide⟩, ?_⟩
 conv => whnf
 refine ⟨((bt h 5 : Nat) : Int), ?_⟩
 conv => whnf
 refine ⟨bt_at hhb (i := 5) (by omega), ?_⟩
 conv => whnf
 refine ⟨⟨by decide, by decide, by decide⟩, .inl ⟨fun c1 _ _ => ?_, fun h => absurd h (by decide), fun h => absurd h (by decide)⟩⟩
 conv => whnf
 refine CallsA.lift (H0 := [rowB h]) [6] rfl ⟨rfl, rfl, trivial⟩ rfl (le64W w0 hhb (o := 6) (c := c1 - 6) (by omega)) ?_
 rintro _ _ ⟨rfl, rfl⟩
 conv => whnf
 refine ⟨trivial, ?_⟩
 conv => whnf
 refine ⟨trivial, ?_⟩
 conv => whnf
 refine ⟨⟨by decide, by decide, by decide⟩, .inl ⟨fun c2 _ _ => ?_, fun h => absurd h (by decide), fun h => absurd h (by decide)⟩⟩
 conv => whnf
 refine CallsA.lift (H0 := [rowB h]) [6] rfl ⟨rfl, rfl, trivial⟩ rfl (le32W w0 hhb (o := 14) (c := c2 - 14) (by omega)) ?_
 rintro _ _ ⟨rfl, rfl⟩
 conv => whnf
 refine ⟨trivial, ?_⟩
 conv => whnf
 refine ⟨trivial, ?_⟩
 conv => whnf
 refine ⟨⟨by decide, by decide, by decide⟩, .inl ⟨fun c3 _ _ => ?_, fun h => absurd h (by decide), fun h => absurd h (by decide)⟩⟩
 conv => whnf
 refine CallsA.lift (H0 := [rowB h]) [6] rfl ⟨rfl, rfl, trivial⟩ rfl (le32W w0 hhb (o := 18) (c := c3 - 18) (by omega)) ?_
 rintro _ _ ⟨rfl, rfl⟩
 conv => whnf
 refine ⟨trivial, ?_⟩
 conv => whnf
 refine ⟨trivial, ?_⟩
 conv => whnf
 refine ⟨⟨by decide, by decide⟩, ?_⟩
 conv => whnf
 refine ⟨((bt h 26 : Nat) : Int), ?_⟩
 conv => whnf
 refine ⟨bt_at hhb (i := 26) (by omega), ?_⟩
 conv => whnf
 refine ⟨⟨by omega, by omega, by omega, by omega, by decide⟩, Int, encI .u8, [], 0, fun _ => rfl, rfl, ?_⟩
 conv => whnf
 have hnn : ((bt h 26 : Nat) : Int).toNat = n := by rw [hn]; rfl
 refine Or.inr ⟨{s2 : Sr // s2.ok L ∧ s2.rem L = (R.drop 27).drop n ∧ n ≤ (R.drop 27).length}, fun ⟨s2, _⟩ => ⟨pdE n, pdH m L s2 h ((R.drop 27).take n)⟩, ?_, fun ⟨s2, hs2, hr2, hn2⟩ => ?_⟩
 · conv => whnf
   rw [hnn]
   refine CallsA.lift (H0 := [srcB 1 L s1, datB L, rowB (List.replicate n 0)]) [1, 2, 8] rfl ⟨srcEE (by rfl) (by rfl) _, rfl, rfl, rfl, rfl, rfl, trivial⟩ rfl (readFullW he hs1 (m := n) (List.length_replicate ..) hL (by omega)) ?_
   rw [hr1]
   rintro _ _ (⟨h2, s2, hs2, hr2, rfl, rfl⟩ | ⟨h2, n', k, hk, hk0, rfl, rfl⟩)
   · conv => whnf
     refine ⟨fun g => zF g, fun _ => ?_⟩
     conv => whnf
     exact ⟨⟨s2, hs2, hr2, h2⟩, [0, 1, 2, 3, 4, 5, 6, 7, 8], ⟨rfl, ⟨rdE (by rfl) (by rfl) (by rfl) (by rfl) m, rfl, srcEE (by rfl) (by rfl) _, rfl, rfl, rfl, rfl, rfl, l4 _, l5 _, rfl, rfl, rfl, rfl, rfl, rfl, trivial⟩, rfl⟩, rfl, rfl, rfl, rfl, trivial⟩
   · rw [List.length_drop] at h2
     rw [if_pos (by omega)] at hG
     subst hG
     conv => whnf
     refine ⟨fun _ => ?_, fun g => zT g⟩
     conv => whnf
     exact Or.inr ⟨[0, 1, 2, 3, 4, 5], .t [.c (.val (.slice none 0 0)), .c (.val (.slice none 0 0)), .c (.val (.pointer none)), .c (.val (.iface t (v k)))], [rdB 1 3 4 5 m, .dead, .dead, tabB tabL, .dead, .dead], ⟨rfl, ⟨rdE (by rfl) (by rfl) (by rfl) (by rfl) m, rfl, l1 _, l2 _, rfl, rfl, l4 _, l5 _, trivial⟩, rfl⟩, rfl, k, (by omega), hRne k, rfl, rfl⟩
 rw [List.length_drop] at hn2
 rw [if_neg (by omega), ← List.drop_drop] at hG
 obtain ⟨sizes, hsz⟩ : ∃ sizes, sizes = (R.drop 27).take n := ⟨_, rfl⟩
 obtain ⟨Q, hQ⟩ : ∃ Q, Q = (R.drop 27).drop n := ⟨_, rfl⟩
 rw [← hsz, ← hQ] at hG
 have hr2Q : s2.rem L = Q := by rw [hr2, hQ]
 rw [← hsz]
 have hszl : sizes.length = n := by rw [hsz, List.length_take, List.length_drop]; omega
 have hszb : Byt sizes := by rw [hsz]; exact (hrb.drop 27).take n
 subst hszl
 conv => whnf
 refine ⟨by decide, Nat × Nat, encF, [], encF_len [], ?_⟩
 conv => whnf
 obtain ⟨F, hF⟩ : ∃ F, F = segsI sizes Q := ⟨_, rfl⟩
 rw [← hF] at hG
 refine Or.inr ⟨{x : Sr × List (List Int) // F = some (x.2, x.1.rem L) ∧ x.1.ok L ∧ x.2.length = sizes.length}, fun ⟨⟨s3, segs⟩, _⟩ => ⟨(11, .o (.c (.vec 9 segs.length))) :: pdE sizes.length, pdH m L s3 h sizes ++ segS 9 segs⟩, ?_, fun ⟨⟨s3, segs⟩, hF3, hs3, hsl⟩ => ?_⟩
 · conv => whnf
   refine ⟨{x : Nat × Sr × List (List Int) // x.1 ≤ sizes.length ∧ x.2.1.ok L ∧ x.2.2.length = x.1 ∧ F = (segsI (sizes.drop x.1) (x.2.1.rem L)).map fun y => (x.2.2 ++ y.1, y.2)}, fun ⟨⟨i, s3, segs⟩, _⟩ => ⟨pdN sizes.length i segs.length, pdH m L s3 h sizes ++ segS 9 segs⟩, fun x => sizes.length - x.1.1, ⟨⟨(0, s2, []), Nat.zero_le _, hs2, rfl, ?_⟩, [0, 1, 2, 3, 4, 5, 6, 7, 8, 9], ⟨rfl, ⟨rdE (by rfl) (by rfl) (by rfl) (by rfl) m, rfl, srcE (by rfl) _, rfl, rfl, rfl, rfl, rfl, l4 _, l5 _, rfl, rfl, rfl, rfl, rfl, rfl, rfl, rfl, trivial⟩, rfl⟩, rfl, rfl, rfl, rfl, rfl, rfl, rfl, rfl, trivial⟩, fun ⟨⟨i, s3, segs⟩, hi, hs3, hsl, hF3⟩ => ?_⟩
   · show F = (segsI sizes (s2.rem L)).map fun y => ([] ++ y.1, y.2)
     rw [hr2Q, ← hF]
     cases F <;> rfl
   simp only at hi hs3 hsl hF3
   cases segs with
   | nil =>
     conv => whnf
     refine ⟨fun g => ?_, fun g => ?_⟩
     · have g : i < sizes.length := lt_t g
       obtain ⟨x, hx, hx8⟩ := byt_at hszb (i := i) g
       rw [segsI_get hx, Int.toNat_natCast] at hF3
       conv => whnf
       refine Or.inr ⟨{y : Sr × List (List Int) // y.1.ok L ∧ y.2.length = i + 1 ∧ F = (segsI (sizes.drop (i + 1)) (y.1.rem L)).map fun z => (y.2 ++ z.1, z.2)}, fun ⟨⟨s4, sg⟩, _⟩ => ⟨pdN sizes.length i sg.length, pdH m L s4 h sizes ++ segS 9 sg⟩, ?_, fun ⟨⟨s4, sg⟩, hs4, hsl4, hF4⟩ => ?_⟩
       · conv => whnf
         refine ⟨⟨Int.natCast_nonneg i, Int.ofNat_lt.2 g⟩, ?_⟩
         conv => whnf
         refine ⟨((x : Nat) : Int), ?_⟩
         conv => whnf
         refine ⟨hx, ?_⟩
         conv => whnf
         rw [nwrapi (n := x) (by omega)]
         refine ⟨⟨by omega, by omega, by omega, by omega, by decide⟩, Int, encI .u8, [], 0, fun _ => rfl, rfl, ?_⟩
         conv => whnf
         refine Or.inr ⟨{s4 : Sr // s4.ok L ∧ s4.rem L = (s3.rem L).drop x ∧ x ≤ (s3.rem L).length}, fun ⟨s4, _⟩ => ⟨(14, .o (.c (.vec 10 x))) :: pdN sizes.length i 0, pdH m L s4 h sizes ++ [out0, rowB ((s3.rem L).take x)]⟩, ?_, fun ⟨s4, hs4, hr4, hx4⟩ => ?_⟩
         · conv => whnf
           refine CallsA.lift (H0 := [srcB 1 L s3, datB L, rowB (List.replicate x 0)]) [1, 2, 10] rfl ⟨srcE (by rfl) _, rfl, rfl, rfl, rfl, rfl, trivial⟩ rfl (readFullW he hs3 (m := x) (List.length_replicate ..) hL (by omega)) ?_
           rintro _ _ (⟨h2, s4, hs4, hr4, rfl, rfl⟩ | ⟨h2, n', k, hk, hk0, rfl, rfl⟩)
           · conv => whnf
             refine ⟨fun g => zF g, fun _ => ?_⟩
             conv => whnf
             exact ⟨⟨s4, hs4, hr4, h2⟩, [0, 1, 2, 3, 4, 5, 6, 7, 8, 9, 10], ⟨rfl, ⟨rdE (by rfl) (by rfl) (by rfl) (by rfl) m, rfl, srcEE (by rfl) (by rfl) _, rfl, rfl, rfl, rfl, rfl, l4 _, l5 _, rfl, rfl, rfl, rfl, rfl, rfl, rfl, rfl, rfl, rfl, trivial⟩, rfl⟩, rfl, rfl, rfl, rfl, rfl, rfl, rfl, rfl, rfl, trivial⟩
           · rw [if_pos h2] at hF3
             have hF3 : F = none := hF3
             rw [hF3] at hG
             subst hG
             conv => whnf
             refine ⟨fun _ => ?_, fun g => zT g⟩
             conv => whnf
             exact Or.inr ⟨[0, 1, 2, 3, 4, 5], .t [.c (.val (.slice none 0 0)), .c (.val (.slice none 0 0)), .c (.val (.pointer none)), .c (.val (.iface t (v k)))], [rdB 1 3 4 5 m, .dead, .dead, tabB tabL, .dead, .dead], ⟨rfl, ⟨rdE (by rfl) (by rfl) (by rfl) (by rfl) m, rfl, l1 _, l2 _, rfl, rfl, l4 _, l5 _, trivial⟩, rfl⟩, rfl, k, (by omega), hRne k, rfl, rfl⟩
         · rw [if_neg (Nat.not_lt.2 hx4), ← hr4] at hF3
           have hXl : ((s3.rem L).take x).length = x := by rw [List.length_take]; omega
           have hF4 : F = (segsI (sizes.drop (i + 1)) (s4.rem L)).map fun z => (([] : List (List Int)) ++ [(s3.rem L).take x] ++ z.1, z.2) := by
             rw [hF3, Option.map_map]
             rfl
           conv => whnf
           refine ⟨[rdB 1 3 4 5 m, srcB 2 L s4, datB L, tabB tabL, .dead, .dead, rowB h, hpB h, rowB sizes, .vec true 74 encF [13] 1 [], .dead, .cells 74 [.mem 13 0 x], .dead] ++ [.fam 5 (encI .u8) 1 ([] ++ [(s3.rem L).take x])],
             Ghost.trans (H1 := [rdB 1 3 4 5 m, srcB 2 L s4, datB L, tabB tabL, .dead, .dead, rowB h, hpB h, rowB sizes, out0, rowB ((s3.rem L).take x), .cells 74 [.vec 10 x], .fam 5 (encI .u8) 1 []]) (Ghost.fam0 w0 [rdB 1 3 4 5 m, srcB 2 L s4, datB L, tabB tabL, .dead, .dead, rowB h, hpB h, rowB sizes, out0, rowB ((s3.rem L).take x), .cells 74 [.vec 10 x]] 5 (encI .u8) 1 (by decide) (fun _ => rfl)) (Ghost.joinL 12 10 (H := [rdB 1 3 4 5 m, srcB 2 L s4, datB L, tabB tabL, .dead, .dead, rowB h, hpB h, rowB sizes, out0, rowB ((s3.rem L).take x), .cells 74 [.vec 10 x], .fam 5 (encI .u8) 1 []]) (H1 := [rdB 1 3 4 5 m, srcB 2 L s4, datB L, tabB tabL, .dead, .dead, rowB h, hpB h, rowB sizes, .vec true 74 encF [13] 1 [], .dead, .cells 74 [.mem 13 0 x], .dead]) (xss := []) (zs := (s3.rem L).take x) (wr := true) rfl rfl ⟨.keep (by decide) (by decide), .keep (by decide) (by decide), .keep (by decide) (by decide), .keep (by decide) (by decide), .keep (by decide) (by decide), .keep (by decide) (by decide), .keep (by decide) (by decide), .keep (by decide) (by decide), .keep (by decide) (by decide), .vec (by decide) (by decide) rfl (fun y => encF_len _ y) rfl, .dead, .cells (by decide) (by decide) rfl, .dead, trivial⟩), ?_⟩
           conv => whnf
           refine ⟨rfl, [(0, x)], ⟨rfl, rfl, rfl⟩, by simp only [List.length_append, List.length_cons, List.length_nil]; omega, by simp only [List.length_append, List.length_cons, List.length_nil]; omega, ?_⟩
           conv => whnf
           refine ⟨⟨(s4, [(s3.rem L).take x]), hs4, by rw [← hsl]; rfl, hF4⟩, ⟨[0, 1, 2, 3, 4, 5, 6, 7, 8, 14, 13], ⟨rfl, ⟨rdE (by rfl) (by rfl) (by rfl) (by rfl) m, rfl, srcE (by rfl) _, rfl, rfl, rfl, rfl, rfl, l4 _, l5 _, rfl, rfl, rfl, rfl, rfl, rfl, ?_, rfl, rfl, rfl, trivial⟩, rfl⟩, rfl, rfl, rfl, rfl, rfl, rfl, rfl, rfl, trivial⟩⟩
           show some (Blk.vec true 74 encF [13] 1 [(0, x)]) = some (Blk.vec true 74 encF [13] 1 (turns [((s3.rem L).take x).length]))
           rw [hXl]
           rfl
       · cases sg with
         | nil => exact absurd hsl4 (by simp)
         | cons y0 yr =>
           conv => whnf
           exact ⟨⟨(i + 1, s4, y0 :: yr), g, hs4, hsl4, hF4⟩, ⟨[0, 1, 2, 3, 4, 5, 6, 7, 8, 9, 10], ⟨rfl, ⟨rdE (by rfl) (by rfl) (by rfl) (by rfl) m, rfl, srcE (by rfl) _, rfl, rfl, rfl, rfl, rfl, l4 _, l5 _, rfl, rfl, rfl, rfl, rfl, rfl, rfl, rfl, rfl, rfl, trivial⟩, rfl⟩, rfl, rfl, rfl, eq_i64 (by rw [nadd, nwrapi (by omega)]), rfl, rfl, rfl, rfl, trivial⟩, by show sizes.length - (i + 1) < sizes.length - i; omega⟩
     · have g : sizes.length ≤ i := lt_f g
       rw [List.drop_of_length_le g] at hF3
       conv => whnf
       exact ⟨⟨(s3, []), by rw [hF3]; rfl, hs3, by rw [← hsl] at g; exact Nat.le_antisymm (Nat.zero_le _) g⟩, [0, 1, 2, 3, 4, 5, 6, 7, 8, 9], ⟨rfl, ⟨rdE (by rfl) (by rfl) (by rfl) (by rfl) m, rfl, srcE (by rfl) _, rfl, rfl, rfl, rfl, rfl, l4 _, l5 _, rfl, rfl, rfl, rfl, rfl, rfl, rfl, rfl, trivial⟩, rfl⟩, rfl, rfl, rfl, rfl, rfl, trivial⟩
   | cons g0 gr =>
     conv => whnf
     refine ⟨fun g => ?_, fun g => ?_⟩
     · have g : i < sizes.length := lt_t g
       obtain ⟨x, hx, hx8⟩ := byt_at hszb (i := i) g
       rw [segsI_get hx, Int.toNat_natCast] at hF3
       conv => whnf
       refine Or.inr ⟨{y : Sr × List (List Int) // y.1.ok L ∧ y.2.length = i + 1 ∧ F = (segsI (sizes.drop (i + 1)) (y.1.rem L)).map fun z => (y.2 ++ z.1, z.2)}, fun ⟨⟨s4, sg⟩, _⟩ => ⟨pdN sizes.length i sg.length, pdH m L s4 h sizes ++ segS 9 sg⟩, ?_, fun ⟨⟨s4, sg⟩, hs4, hsl4, hF4⟩ => ?_⟩
       · conv => whnf
         refine ⟨⟨Int.natCast_nonneg i, Int.ofNat_lt.2 g⟩, ?_⟩
         conv => whnf
         refine ⟨((x : Nat) : Int), ?_⟩
         conv => whnf
         refine ⟨hx, ?_⟩
         conv => whnf
         rw [nwrapi (n := x) (by omega)]
         refine ⟨⟨by omega, by omega, by omega, by omega, by decide⟩, Int, encI .u8, [], 0, fun _ => rfl, rfl, ?_⟩
         conv => whnf
         refine Or.inr ⟨{s4 : Sr // s4.ok L ∧ s4.rem L = (s3.rem L).drop x ∧ x ≤ (s3.rem L).length}, fun ⟨s4, _⟩ => ⟨(14, .o (.c (.vec 11 x))) :: pdN sizes.length i (g0 :: gr).length, pdH m L s4 h sizes ++ [outB 10 (g0 :: gr), segB (g0 :: gr), rowB ((s3.rem L).take x)]⟩, ?_, fun ⟨s4, hs4, hr4, hx4⟩ => ?_⟩
         · conv => whnf
           refine CallsA.lift (H0 := [srcB 1 L s3, datB L, rowB (List.replicate x 0)]) [1, 2, 11] rfl ⟨srcE (by rfl) _, rfl, rfl, rfl, rfl, rfl, trivial⟩ rfl (readFullW he hs3 (m := x) (List.length_replicate ..) hL (by omega)) ?_
           rintro _ _ (⟨h2, s4, hs4, hr4, rfl, rfl⟩ | ⟨h2, n', k, hk, hk0, rfl, rfl⟩)
           · conv => whnf
             refine ⟨fun g => zF g, fun _ => ?_⟩
             conv => whnf
             exact ⟨⟨s4, hs4, hr4, h2⟩, [0, 1, 2, 3, 4, 5, 6, 7, 8, 9, 10, 11], ⟨rfl, ⟨rdE (by rfl) (by rfl) (by rfl) (by rfl) m, rfl, srcEE (by rfl) (by rfl) _, rfl, rfl, rfl, rfl, rfl, l4 _, l5 _, rfl, rfl, rfl, rfl, rfl, rfl, rfl, rfl, rfl, rfl, rfl, rfl, trivial⟩, rfl⟩, rfl, rfl, rfl, rfl, rfl, rfl, rfl, rfl, rfl, trivial⟩
           · rw [if_pos h2] at hF3
             have hF3 : F = none := hF3
             rw [hF3] at hG
             subst hG
             conv => whnf
             refine ⟨fun _ => ?_, fun g => zT g⟩
             conv => whnf
             exact Or.inr ⟨[0, 1, 2, 3, 4, 5], .t [.c (.val (.slice none 0 0)), .c (.val (.slice none 0 0)), .c (.val (.pointer none)), .c (.val (.iface t (v k)))], [rdB 1 3 4 5 m, .dead, .dead, tabB tabL, .dead, .dead], ⟨rfl, ⟨rdE (by rfl) (by rfl) (by rfl) (by rfl) m, rfl, l1 _, l2 _, rfl, rfl, l4 _, l5 _, trivial⟩, rfl⟩, rfl, k, (by omega), hRne k, rfl, rfl⟩
         · rw [if_neg (Nat.not_lt.2 hx4), ← hr4] at hF3
           have hXl : ((s3.rem L).take x).length = x := by rw [List.length_take]; omega
           have hF4 : F = (segsI (sizes.drop (i + 1)) (s4.rem L)).map fun z => ((g0 :: gr) ++ [(s3.rem L).take x] ++ z.1, z.2) := by
             rw [hF3, Option.map_map]
             congr 1
             funext z
             show ((g0 :: gr) ++ (s3.rem L).take x :: z.1, z.2) = _
             rw [List.append_assoc]
             all_goals rfl
           conv => whnf
           refine ⟨[rdB 1 3 4 5 m, srcB 2 L s4, datB L, tabB tabL, .dead, .dead, rowB h, hpB h, rowB sizes, outB 13 (g0 :: gr), .dead, .dead, .cells 74 [.mem 13 (g0 :: gr).length x]] ++ [.fam 5 (encI .u8) 1 ((g0 :: gr) ++ [(s3.rem L).take x])],
             Ghost.joinL 10 11 (H := [rdB 1 3 4 5 m, srcB 2 L s4, datB L, tabB tabL, .dead, .dead, rowB h, hpB h, rowB sizes, outB 10 (g0 :: gr), segB (g0 :: gr), rowB ((s3.rem L).take x), .cells 74 [.vec 11 x]]) (H1 := [rdB 1 3 4 5 m, srcB 2 L s4, datB L, tabB tabL, .dead, .dead, rowB h, hpB h, rowB sizes, outB 13 (g0 :: gr), .dead, .dead, .cells 74 [.mem 13 (g0 :: gr).length x]]) (xss := g0 :: gr) (zs := (s3.rem L).take x) (wr := true) rfl rfl ⟨.keep (by decide) (by decide), .keep (by decide) (by decide), .keep (by decide) (by decide), .keep (by decide) (by decide), .keep (by decide) (by decide), .keep (by decide) (by decide), .keep (by decide) (by decide), .keep (by decide) (by decide), .keep (by decide) (by decide), .vec (by decide) (by decide) rfl (fun y => encF_len _ y) (flat_tau _ _ _ _ _).symm, .dead, .dead, .cells (by decide) (by decide) rfl, trivial⟩, ?_⟩
           have htl : (turns ((g0 :: gr).map List.length)).length = i := by rw [turns_len, List.length_map]; exact hsl
           conv => whnf
           refine ⟨by rw [htl]; exact hsl, [((g0 :: gr).length, x)], ⟨rfl, rfl, rfl⟩, by rw [List.length_append, htl, List.length_singleton]; omega, by rw [List.length_append, htl, List.length_singleton]; omega, ?_⟩
           conv => whnf
           refine ⟨⟨(s4, (g0 :: gr) ++ [(s3.rem L).take x]), hs4, by show ((g0 :: gr) ++ [_]).length = _; rw [List.length_append, hsl]; rfl, hF4⟩, ⟨[0, 1, 2, 3, 4, 5, 6, 7, 8, 14, 13], ⟨rfl, ⟨rdE (by rfl) (by rfl) (by rfl) (by rfl) m, rfl, srcE (by rfl) _, rfl, rfl, rfl, rfl, rfl, l4 _, l5 _, rfl, rfl, rfl, rfl, rfl, rfl, ?_, rfl, rfl, rfl, trivial⟩, rfl⟩, ?_, rfl, rfl, rfl, rfl, rfl, rfl, rfl, trivial⟩⟩
           · show some (Blk.vec true 74 encF [13] 1 (turns ((g0 :: gr).map List.length) ++ [((g0 :: gr).length, x)])) = some (Blk.vec true 74 encF [13] 1 (turns (((g0 :: gr) ++ [(s3.rem L).take x]).map List.length)))
             rw [List.map_append, show [(s3.rem L).take x].map List.length = [x] by rw [List.map_cons, hXl]; rfl, turns_snoc, List.length_map]
           · show some (AV.o (.c (CV.vec 14 (turns ((g0 :: gr).map List.length) ++ [((g0 :: gr).length, x)]).length))) = some (AV.o (.c (CV.vec 14 ((g0 :: gr) ++ [(s3.rem L).take x]).length)))
             rw [List.length_append, htl, List.length_append, hsl]
             rfl
       · cases sg with
         | nil => exact absurd hsl4 (by simp)
         | cons y0 yr =>
           conv => whnf
           exact ⟨⟨(i + 1, s4, y0 :: yr), g, hs4, hsl4, hF4⟩, ⟨[0, 1, 2, 3, 4, 5, 6, 7, 8, 9, 10], ⟨rfl, ⟨rdE (by rfl) (by rfl) (by rfl) (by rfl) m, rfl, srcE (by rfl) _, rfl, rfl, rfl, rfl, rfl, l4 _, l5 _, rfl, rfl, rfl, rfl, rfl, rfl, rfl, rfl, rfl, rfl, trivial⟩, rfl⟩, rfl, rfl, rfl, eq_i64 (by rw [nadd, nwrapi (by omega)]), rfl, rfl, rfl, rfl, trivial⟩, by show sizes.length - (i + 1) < sizes.length - i; omega⟩
     · have g : sizes.length ≤ i := lt_f g
       rw [List.drop_of_length_le g] at hF3
       conv => whnf
       exact ⟨⟨(s3, g0 :: gr), by rw [hF3]; show some ((g0 :: gr) ++ [], _) = _; rw [List.append_nil], hs3, by show (g0 :: gr).length = _; omega⟩, [0, 1, 2, 3, 4, 5, 6, 7, 8, 9, 10], ⟨rfl, ⟨rdE (by rfl) (by rfl) (by rfl) (by rfl) m, rfl, srcE (by rfl) _, rfl, rfl, rfl, rfl, rfl, l4 _, l5 _, rfl, rfl, rfl, rfl, rfl, rfl, rfl, rfl, rfl, rfl, trivial⟩, rfl⟩, rfl, rfl, rfl, rfl, rfl, trivial⟩
 · simp only at hF3 hs3 hsl
   rw [hF3] at hG hF
   simp only at hG
   have hfa := segsI_facts sizes Q hF.symm
   have hsg : ∀ l ∈ segs, Byt l ∧ l.length ≤ 255 := fun l hl => ⟨(hfa.2.1 (by rw [hQ]; exact (hrb.drop 27).drop _)).2 l hl, hfa.2.2.1 hszb l hl⟩
   cases segs with
   | nil =>
     conv => whnf
     refine Or.inl ?_
     conv => whnf
     refine ⟨fun _ => ?_, fun g => zT g⟩
     conv => whnf
     refine CallsA.ghost (Ghost.trans (Ghost.fam0 w0 _ 5 (encI .u8) 1 (by decide) (fun _ => rfl)) (Ghost.empty 9 encF [10] rfl (encF_len _))) ?_
     refine CallsA.liftK (H0 := [rdB 1 3 4 5 m, .dead, .dead, tabB tabL, .dead, .dead, rowB h, rowB sizes, outB 9 [], segB []]) [0, 1, 2, 3, 4, 5, 6, 8, 9, 10] [rdB 1 3 4 5 m, .dead, .dead, tabB tabL, .dead, .dead, rowB h, hpB h, rowB sizes, outB 10 [], segB []] ⟨rfl, rfl, rfl, rfl, rfl, rfl, rfl, trivial⟩ rfl ⟨rdE (by rfl) (by rfl) (by rfl) (by rfl) m, rfl, l1 _, l2 _, rfl, rfl, l4 _, l5 _, rfl, rfl, rfl, rfl, rfl, rfl, rfl, rfl, trivial⟩ rfl (validateW (segs := []) he m hhb hhl hszb (by omega) hsg (by rw [hsl]; omega)) ?_
     rintro _ _ ⟨rfl, rfl⟩
     by_cases hcrc : le ((h.drop 22).take 4) = crcS (hz h ++ sizes ++ List.flatten [])
     · rw [if_pos hcrc] at hG ⊢
       subst hG
       conv => whnf
       refine ⟨fun g => zF g, fun _ => ?_⟩
       conv => whnf
       exact Or.inr ⟨[0, 1, 2, 3, 4, 5, 7, 8, 9, 10], .t [.c (.vec 8 (List.length [])), .c (.vec 7 sizes.length), .c (.ptr 6 0), .c (.val .nilIface)], [rdB 1 3 4 5 m, srcB 2 L s3, datB L, tabB tabL, .dead, .dead, hpB h, rowB sizes, outB 9 [], segB []], ⟨rfl, ⟨rdEE (by rfl) (by rfl) (by rfl) (by rfl) (by rfl) (by rfl) (by rfl) (by rfl) m, rfl, srcE (by rfl) _, rfl, rfl, rfl, rfl, rfl, l4 _, l5 _, rfl, rfl, rfl, rfl, rfl, rfl, rfl, rfl, trivial⟩, rfl⟩, rfl, s3, hs3, rfl, rfl, rfl⟩
     · rw [if_neg hcrc] at hG ⊢
       subst hG
       conv => whnf
       refine ⟨fun _ => ?_, fun g => zT g⟩
       conv => whnf
       exact Or.inr ⟨[0, 1, 2, 3, 4, 5], .t [.c (.val (.slice none 0 0)), .c (.val (.slice none 0 0)), .c (.val (.pointer none)), .c (.val (.iface t (v 5)))], [rdB 1 3 4 5 m, .dead, .dead, tabB tabL, .dead, .dead], ⟨rfl, ⟨rdEE (by rfl) (by rfl) (by rfl) (by rfl) (by rfl) (by rfl) (by rfl) (by rfl) m, rfl, l1 _, l2 _, rfl, rfl, l4 _, l5 _, trivial⟩, rfl⟩, rfl, 5, by omega, hRne 5, rfl, rfl⟩
   | cons g0 gr =>
     conv => whnf
     refine Or.inl ?_
     conv => whnf
     refine ⟨fun _ => ?_, fun g => zT g⟩
     conv => whnf
     refine CallsA.liftK (H0 := [rdB 1 3 4 5 m, .dead, .dead, tabB tabL, .dead, .dead, rowB h, rowB sizes, outB 9 (g0 :: gr), segB (g0 :: gr)]) [0, 1, 2, 3, 4, 5, 6, 8, 9, 10] [rdB 1 3 4 5 m, .dead, .dead, tabB tabL, .dead, .dead, rowB h, hpB h, rowB sizes, outB 10 (g0 :: gr), segB (g0 :: gr)] ⟨rfl, rfl, rfl, rfl, rfl, rfl, rfl, trivial⟩ rfl ⟨rdE (by rfl) (by rfl) (by rfl) (by rfl) m, rfl, l1 _, l2 _, rfl, rfl, l4 _, l5 _, rfl, rfl, rfl, rfl, rfl, rfl, rfl, rfl, trivial⟩ rfl (validateW (segs := (g0 :: gr)) he m hhb hhl hszb (by omega) hsg (by rw [hsl]; omega)) ?_
     rintro _ _ ⟨rfl, rfl⟩
     by_cases hcrc : le ((h.drop 22).take 4) = crcS (hz h ++ sizes ++ List.flatten (g0 :: gr))
     · rw [if_pos hcrc] at hG ⊢
       subst hG
       conv => whnf
       refine ⟨fun g => zF g, fun _ => ?_⟩
       conv => whnf
       exact Or.inr ⟨[0, 1, 2, 3, 4, 5, 7, 8, 9, 10], .t [.c (.vec 8 (List.length (g0 :: gr))), .c (.vec 7 sizes.length), .c (.ptr 6 0), .c (.val .nilIface)], [rdB 1 3 4 5 m, srcB 2 L s3, datB L, tabB tabL, .dead, .dead, hpB h, rowB sizes, outB 9 (g0 :: gr), segB (g0 :: gr)], ⟨rfl, ⟨rdEE (by rfl) (by rfl) (by rfl) (by rfl) (by rfl) (by rfl) (by rfl) (by rfl) m, rfl, srcE (by rfl) _, rfl, rfl, rfl, rfl, rfl, l4 _, l5 _, rfl, rfl, rfl, rfl, rfl, rfl, rfl, rfl, trivial⟩, rfl⟩, rfl, s3, hs3, rfl, rfl, rfl⟩
     · rw [if_neg hcrc] at hG ⊢
       subst hG
       conv => whnf
       refine ⟨fun _ => ?_, fun g => zT g⟩
       conv => whnf
       exact Or.inr ⟨[0, 1, 2, 3, 4, 5], .t [.c (.val (.slice none 0 0)), .c (.val (.slice none 0 0)), .c (.val (.pointer none)), .c (.val (.iface t (v 5)))], [rdB 1 3 4 5 m, .dead, .dead, tabB tabL, .dead, .dead], ⟨rfl, ⟨rdEE (by rfl) (by rfl) (by rfl) (by rfl) (by rfl) (by rfl) (by rfl) (by rfl) m, rfl, l1 _, l2 _, rfl, rfl, l4 _, l5 _, trivial⟩, rfl⟩, rfl, 5, by omega, hRne 5, rfl, rfl⟩
end Go.Proofs.YtokkphocaloelaaGreatDoor

end
section
namespace Go.Proofs.YtokkphocaloelaaGreatDoor
open Go Go.Vc
set_option maxRecDepth 100000
set_option maxHeartbeats 8000000

inductive Qs where
 | none
 | sli (o n c : Nat)
 | vec (n : Nat)
def Qs.cv (i : Nat) : Qs → CV
 | .none => .val (.slice .none 0 0)
 | .sli o n c => .sli i 2 o n c
 | .vec n => .vec i n
def parV (i : Nat) : Option Nat → CV
 | none => .val (.slice none 0 0)
 | some k => .vec i k
def psB (a b : Nat) (q : Qs) (p : Option Nat) (d : Bool) (li : Nat) (hl : Bool) : Blk := .cells 125 [q.cv a, parV b p, .val (.bool d), .val (.int .u32 (li : Nat)), .val (.bool hl)]
theorem psB_ren {σ : List Nat} {a b a' b' : Nat} (h1 : σ[a]? = some a') (h2 : σ[b]? = some b') (q : Qs) (p : Option Nat) (d : Bool) (li : Nat) (hl : Bool) : (psB a b q p d li hl).ren σ = psB a' b' q p d li hl := by
 have e1 : (q.cv a).ren σ = q.cv a' := by
   cases q with
   | none => rfl
   | sli o n c => simp only [Qs.cv, CV.ren, h1]
   | vec n => simp only [Qs.cv, CV.ren, h1]
 have e2 : (parV b p).ren σ = parV b' p := by
   cases p with
   | none => rfl
   | some x => simp only [parV, CV.ren, h2]
 show Blk.cells _ [(q.cv a).ren σ, (parV b p).ren σ, _, _, _] = _
 rw [e1, e2]
 rfl
theorem psE {σ : List Nat} {a b a' b' : Nat} (h1 : σ[a]? = some a') (h2 : σ[b]? = some b') (q : Qs) (p : Option Nat) (d : Bool) (li : Nat) (hl : Bool) : some (psB a' b' q p d li hl) = some ((psB a b q p d li hl).ren σ) := by rw [psB_ren h1 h2]
theorem getStateW (w0 : World) (m : Bool) : CallsA Tryz.prog w0 53 [.c (.ptr 0 0)] [rdB 1 3 4 5 m, .dead, .dead, .dead, .dead, .dead] fun r H => r = .o (.c (.ptr 4 0)) ∧ H = [rdB 1 3 4 5 m, .dead, .dead, .dead, .dead, .dead] := by
 refine callsA_of_ev c53_ ?_
 conv => whnf
 refine Or.inl ?_
 conv => whnf
 refine ⟨fun g => zF g, fun _ => ?_⟩
 conv => whnf
 exact Or.inl ⟨rfl, rfl⟩
def mkLi (h : List Int) (li : Nat) : Nat := if bt h 26 = 0 then li else le ((h.drop 18).take 4)
def mkHl (h : List Int) (hl : Bool) : Bool := if bt h 26 = 0 then hl else true
theorem markReadW (w0 : World) (m : Bool) {h : List Int} (q : Qs) (p : Option Nat) (d : Bool) (li : Nat) (hl : Bool) : CallsA Tryz.prog w0 85 [.c (.ptr 0 0), .c (.ptr 6 0)] [rdB 1 3 4 5 m, .dead, .dead, .dead, psB 7 8 q p d li hl, .dead, hpB h, .dead, .dead] fun r H =>
   r = .t [] ∧ H = [rdB 1 3 4 5 m, .dead, .dead, .dead, psB 7 8 q p d (mkLi h li) (mkHl h hl), .dead, hpB h, .dead, .dead] := by
 refine callsA_of_ev c85_ ?_
 conv => whnf
 refine Or.inl ?_
 conv => whnf
 refine ⟨fun g => ?_, fun g => ?_⟩
 · have g : bt h 26 = 0 := beq_t (b := 0) g
   rw [show mkLi h li = li from if_pos g, show mkHl h hl = hl from if_pos g]
   conv => whnf
   exact Or.inl ⟨rfl, rfl⟩
 · have g : bt h 26 ≠ 0 := beq_f (b := 0) g
   rw [show mkLi h li = le ((h.drop 18).take 4) from if_neg g, show mkHl h hl = true from if_neg g]
   conv => whnf
   refine CallsA.liftK (H0 := [rdB 1 3 4 5 m, .dead, .dead, .dead, .dead, .dead]) [0, 1, 2, 3, 4, 5] [rdB 1 3 4 5 m, .dead, .dead, .dead, .dead, .dead, hpB h, .dead, .dead] ⟨rfl, rfl, trivial⟩ rfl ⟨rdE (by rfl) (by rfl) (by rfl) (by rfl) m, rfl, l1 _, l2 _, l3 _, l4 _, l5 _, trivial⟩ rfl (getStateW w0 m) ?_
   rintro _ _ ⟨rfl, rfl⟩
   conv => whnf
   exact Or.inr ⟨[0, 1, 2, 3, 4, 5, 6, 7, 8], .t [], [rdB 1 3 4 5 m, .dead, .dead, .dead, psB 7 8 q p d (le ((h.drop 18).take 4)) true, .dead, hpB h, .dead, .dead], ⟨rfl, ⟨rdEE (by rfl) (by rfl) (by rfl) (by rfl) (by rfl) (by rfl) (by rfl) (by rfl) m, rfl, l1 _, l2 _, l3 _, psE (by rfl) (by rfl) q p d _ _, rfl, l5 _, rfl, rfl, show 7 < 9 by decide, show 8 < 9 by decide, trivial⟩, rfl⟩, rfl, rfl, rfl⟩
end Go.Proofs.YtokkphocaloelaaGreatDoor

end
section
namespace Go.Proofs.YtokkphocaloelaaGreatDoor
open Go Go.Vc
set_option maxRecDepth 100000
set_option maxHeartbeats 8000000

def full : Nat → List Int → List (List Int)
 | 0, _ => []
 | n + 1, x => x.take 255 :: full n (x.drop 255)
def lc (x : List Int) : List (List Int) := full (x.length / 255) x
def lr (x : List Int) : List Int := x.drop (255 * (x.length / 255))
def lace (more : Bool) : List (List Int) → List (List Int)
 | [] => []
 | x :: r => lc x ++ (if r = [] ∧ more = true then [] else [lr x]) ++ lace more r
def join : List (List Int) → List Int → List (List Int)
 | [], _ => []
 | x :: r, acc => if x.length < 255 ∨ r = [] then (acc ++ x) :: join r [] else join r (acc ++ x)
theorem lc_cons {a x : List Int} (h : a.length = 255) : lc (a ++ x) = a :: lc x ∧ lr (a ++ x) = lr x := by
 unfold lc lr
 rw [List.length_append, h, show (255 + x.length) / 255 = x.length / 255 + 1 by omega]
 constructor
 · rw [full, List.take_left' h, List.drop_left' h]
 · rw [show 255 * (x.length / 255 + 1) = 255 + 255 * (x.length / 255) by omega, ← List.drop_drop, List.drop_left' h]
theorem lc_short {x : List Int} (h : x.length < 255) : lc x = [] ∧ lr x = x := by
 unfold lc lr
 rw [show x.length / 255 = 0 by omega]
 exact ⟨rfl, by rw [Nat.mul_zero, List.drop_zero]⟩
theorem lc_app : ∀ (n : Nat) {a : List Int} (x : List Int), a.length = 255 * n → lc (a ++ x) = lc a ++ lc x ∧ lr (a ++ x) = lr x
 | 0, a, x, h => by
   obtain rfl : a = [] := List.eq_nil_of_length_eq_zero (by omega)
   exact ⟨rfl, rfl⟩
 | n + 1, a, x, h => by
   have h1 : (a.take 255).length = 255 := by rw [List.length_take]; omega
   have h2 : (a.drop 255).length = 255 * n := by rw [List.length_drop]; omega
   obtain ⟨e1, e2⟩ := lc_app n x h2
   have hs : a = a.take 255 ++ a.drop 255 := (List.take_append_drop 255 a).symm
   obtain ⟨c1, c2⟩ := lc_cons (x := a.drop 255 ++ x) h1
   obtain ⟨d1, _⟩ := lc_cons (x := a.drop 255) h1
   rw [← hs] at d1
   have hs2 : a ++ x = a.take 255 ++ (a.drop 255 ++ x) := by rw [← List.append_assoc, ← hs]
   rw [hs2, c1, c2, e1, e2, d1]
   exact ⟨rfl, rfl⟩
theorem lc_all {x : List Int} : ∀ y ∈ lc x, y.length = 255 := by
 have : ∀ (n : Nat) (x : List Int), 255 * n ≤ x.length → ∀ y ∈ full n x, y.length = 255 := by
   intro n
   induction n with
   | zero => intro x _ y hy; exact (List.not_mem_nil hy).elim
   | succ n ih =>
     intro x hx y hy
     rcases List.mem_cons.1 hy with rfl | hy
     · rw [List.length_take]; omega
     · exact ih _ (by rw [List.length_drop]; omega) y hy
 exact this _ _ (by omega)
theorem lr_len (x : List Int) : (lr x).length < 255 := by
 unfold lr
 rw [List.length_drop]
 omega
theorem lc_lr (x : List Int) : (lc x).flatten ++ lr x = x := by
 have : ∀ (n : Nat) (x : List Int), (full n x).flatten ++ x.drop (255 * n) = x := by
   intro n
   induction n with
   | zero => intro x; simp [full]
   | succ n ih =>
     intro x
     rw [full, List.flatten_cons, List.append_assoc, show 255 * (n + 1) = 255 + 255 * n by omega, ← List.drop_drop, ih, List.take_append_drop]
 exact this _ x
theorem join_ne {x : List Int} {r : List (List Int)} : ∀ {acc : List Int}, join (x :: r) acc ≠ [] := by
 induction r generalizing x with
 | nil => intro acc; rw [join, if_pos (.inr rfl)]; exact List.cons_ne_nil _ _
 | cons y r ih =>
   intro acc
   rw [join]
   split
   · exact List.cons_ne_nil _ _
   · exact ih
theorem lace_join : ∀ (segs : List (List Int)) (acc : List Int) (k : Nat) (more : Bool), segs ≠ [] → (∀ x ∈ segs, x.length ≤ 255) → acc.length = 255 * k → (∀ x, segs.getLast? = some x → (more = true ↔ x.length = 255)) → lace more (join segs acc) = lc acc ++ segs
 | [], _, _, _, h, _, _, _ => absurd rfl h
 | x :: r, acc, k, more, _, hl, ha, hm => by
   obtain ⟨e1, e2⟩ := lc_app k x ha
   have hx := hl x (List.mem_cons_self ..)
   cases r with
   | nil =>
     have hm := hm x rfl
     rw [join, if_pos (.inr rfl)]
     show lc (acc ++ x) ++ (if join [] [] = [] ∧ more = true then [] else [lr (acc ++ x)]) ++ [] = _
     rw [List.append_nil, e1, e2]
     by_cases h : x.length = 255
     · rw [if_pos ⟨rfl, hm.2 h⟩, List.append_nil]
       have := (lc_cons (x := []) h).1
       rw [List.append_nil] at this
       rw [this]
       rfl
     · rw [if_neg (fun c => h (hm.1 c.2))]
       obtain ⟨s1, s2⟩ := lc_short (x := x) (by omega)
       rw [s1, s2, List.append_nil]
   | cons y r =>
     have hm' : ∀ z, (y :: r).getLast? = some z → (more = true ↔ z.length = 255) := fun z hz => hm z (by rw [List.getLast?_cons_cons]; exact hz)
     have hl' : ∀ z ∈ y :: r, z.length ≤ 255 := fun z hz => hl z (List.mem_cons_of_mem _ hz)
     rw [join]
     by_cases h : x.length < 255
     · rw [if_pos (.inl h)]
       show lc (acc ++ x) ++ (if join (y :: r) [] = [] ∧ more = true then [] else [lr (acc ++ x)]) ++ lace more (join (y :: r) []) = _
       rw [if_neg (fun c => join_ne c.1), lace_join (y :: r) [] 0 more (List.cons_ne_nil _ _) hl' rfl hm', e1, e2]
       obtain ⟨s1, s2⟩ := lc_short h
       rw [s1, s2, List.append_nil, List.append_assoc]
       rfl
     · rw [if_neg (by rintro (c | c); exact h c; exact List.cons_ne_nil _ _ c), lace_join (y :: r) (acc ++ x) (k + 1) more (List.cons_ne_nil _ _) hl' (by rw [List.length_append]; omega) hm', e1]
       have := (lc_cons (x := []) (a := x) (by omega)).1
       rw [List.append_nil] at this
       rw [this, List.append_assoc]
       rfl
theorem join_lc : ∀ (n : Nat) {x : List Int} (acc : List Int) (R : List (List Int)), x.length / 255 = n → join (lc x ++ ([lr x] ++ R)) acc = (acc ++ x) :: join R []
 | 0, x, acc, R, h => by
   obtain ⟨s1, s2⟩ := lc_short (x := x) (by omega)
   rw [s1, s2, List.nil_append, List.singleton_append, join, if_pos (.inl (by omega))]
 | n + 1, x, acc, R, h => by
   have h1 : (x.take 255).length = 255 := by rw [List.length_take]; omega
   obtain ⟨c1, c2⟩ := lc_cons (x := x.drop 255) h1
   rw [List.take_append_drop] at c1 c2
   rw [c1, c2, List.cons_append, join, if_neg (by
     rintro (c | c)
     · omega
     · have := congrArg List.length c
       simp at this), join_lc n (acc ++ x.take 255) R (by rw [List.length_drop]; omega), List.append_assoc, List.take_append_drop]
theorem join_last : ∀ (n : Nat) {x : List Int} (acc : List Int), x.length = 255 * (n + 1) → join (lc x) acc = [acc ++ x]
 | 0, x, acc, h => by
   have := (lc_cons (x := []) (a := x) (by omega)).1
   rw [List.append_nil] at this
   rw [this, show lc [] = [] from rfl, join, if_pos (.inr rfl)]
   rfl
 | n + 1, x, acc, h => by
   have h1 : (x.take 255).length = 255 := by rw [List.length_take]; omega
   obtain ⟨c1, _⟩ := lc_cons (x := x.drop 255) h1
   rw [List.take_append_drop] at c1
   have h2 : (x.drop 255).length = 255 * (n + 1) := by rw [List.length_drop]; omega
   have hne : lc (x.drop 255) ≠ [] := by
     unfold lc
     rw [h2, show 255 * (n + 1) / 255 = n + 1 by omega]
     exact List.cons_ne_nil _ _
   rw [c1, join, if_neg (by rintro (c | c); omega; exact hne c), join_last n (acc ++ x.take 255) h2, List.append_assoc, List.take_append_drop]
theorem join_lace : ∀ (ps : List (List Int)) (more : Bool), (more = true → ∀ x, ps.getLast? = some x → ∃ n, x.length = 255 * (n + 1)) → join (lace more ps) [] = ps
 | [], _, _ => rfl
 | [x], more, h => by
   show join (lc x ++ (if [] = [] ∧ more = true then [] else [lr x]) ++ []) [] = [x]
   rw [List.append_nil]
   cases more with
   | true =>
     obtain ⟨n, hn⟩ := h rfl x rfl
     rw [if_pos ⟨rfl, rfl⟩, List.append_nil, join_last n [] hn]
     rfl
   | false =>
     rw [if_neg (fun c => Bool.noConfusion c.2)]
     have := join_lc (x.length / 255) [] [] (x := x) rfl
     rw [List.append_nil] at this
     rw [this]
     rfl
 | x :: y :: r, more, h => by
   show join (lc x ++ (if y :: r = [] ∧ more = true then [] else [lr x]) ++ lace more (y :: r)) [] = x :: y :: r
   rw [if_neg (fun c => List.cons_ne_nil _ _ c.1), List.append_assoc, join_lc (x.length / 255) [] _ rfl, join_lace (y :: r) more fun hm z hz => h hm z (by rw [List.getLast?_cons_cons]; exact hz)]
   rfl
end Go.Proofs.YtokkphocaloelaaGreatDoor

end
section
namespace Go.Proofs.YtokkphocaloelaaGreatDoor
open Go Go.Vc
set_option maxRecDepth 100000
set_option maxHeartbeats 8000000

def tot : List Int → Nat
 | [] => 0
 | s :: r => s.toNat + tot r
theorem tot_add (a b : List Int) : tot (a ++ b) = tot a + tot b := by
 induction a with
 | nil => simp [tot]
 | cons x r ih => rw [List.cons_append, tot, tot, ih]; omega
theorem segsI_ok : ∀ (ss r : List Int), tot ss ≤ r.length → ∃ segs, segsI ss r = some (segs, r.drop (tot ss)) ∧ segs.flatten = r.take (tot ss) ∧ segs.map (fun x => ((x.length : Nat) : Int)) = ss.map (fun s => ((s.toNat : Nat) : Int))
 | [], r, _ => ⟨[], by simp [segsI, tot], by simp [tot], rfl⟩
 | s :: ss, r, h => by
   rw [tot] at h
   obtain ⟨segs, h1, h2, h3⟩ := segsI_ok ss (r.drop s.toNat) (by rw [List.length_drop]; omega)
   refine ⟨r.take s.toNat :: segs, ?_, ?_, ?_⟩
   · rw [segsI, if_neg (by omega), h1, tot, List.drop_drop]
     rfl
   · rw [List.flatten_cons, h2, tot, List.take_add]
   · rw [List.map_cons, List.map_cons, h3, List.length_take, Nat.min_eq_left (by omega)]
theorem take_split {L : List Int} {f a v : Nat} (hf : f ≤ a) (ha : a ≤ L.length) : (L.take (a + v)).drop f = (L.take a).drop f ++ (L.drop a).take v := by
 rw [List.take_add, List.drop_append_of_le_length (by rw [List.length_take]; omega)]
theorem prS_join {b : ByteArray} {n : Nat} {segs : List (List Int)} (hn : 27 + n ≤ b.size) (ht : tot (((bytesOf b).drop 27).take n) ≤ b.size - (27 + n)) (hf : segs.flatten = ((bytesOf b).drop (27 + n)).take (tot (((bytesOf b).drop 27).take n)))
   (hl : segs.map (fun x => ((x.length : Nat) : Int)) = (((bytesOf b).drop 27).take n).map (fun s => ((s.toNat : Nat) : Int))) : ∀ i, i ≤ n → (prS b n i).1 = 27 + n + (segs.take i).flatten.length ∧
     (prS b n i).2.2.1.map bytesOf ++ join (segs.drop i) (((bytesOf b).take (prS b n i).1).drop (prS b n i).2.1) = join segs []
 | 0, _ => by
   refine ⟨by simp [prS], ?_⟩
   show [] ++ join segs (((bytesOf b).take (27 + n)).drop (27 + n)) = _
   rw [List.drop_of_length_le (by rw [List.length_take]; omega)]
   rfl
 | i + 1, hi => by
   obtain ⟨h1, h2⟩ := prS_join hn ht hf hl i (by omega)
   have hfr := prS_from b n i
   have hbl := bytesOf_len b
   have hbb := byt_bytes b
   have hsl : segs.length = n := by
     have := congrArg List.length hl
     rw [List.length_map, List.length_map, List.length_take, List.length_drop, hbl] at this
     omega
   obtain ⟨x, hx⟩ : ∃ x, segs[i]? = some x := ⟨_, List.getElem?_eq_getElem (by omega)⟩
   have hv : (bytesOf b)[27 + i]? = some ((bt (bytesOf b) (27 + i) : Nat) : Int) := bt_at hbb (by omega)
   obtain ⟨v, hvv⟩ : ∃ v, v = bt (bytesOf b) (27 + i) := ⟨_, rfl⟩
   have hv8 : v < 256 := by rw [hvv]; exact bt_lt hbb _
   rw [← hvv] at hv
   have hxl : x.length = v := by
     have e1 := congrArg (fun l => l[i]?) hl
     simp only [List.getElem?_map, hx, List.getElem?_take, List.getElem?_drop, if_pos (show i < n by omega), hv, Option.map_some, Option.some.injEq] at e1
     omega
   have hdr : segs.drop i = x :: segs.drop (i + 1) := List.drop_eq_getElem?_toList_append.trans (by rw [hx]; rfl)
   have htk : (segs.take (i + 1)).flatten = (segs.take i).flatten ++ x := by
     rw [List.take_add_one, hx, List.flatten_append]
     simp
   have hle : (segs.take (i + 1)).flatten.length ≤ tot (((bytesOf b).drop 27).take n) := by
     have e1 : segs.flatten = (segs.take (i + 1)).flatten ++ (segs.drop (i + 1)).flatten := by rw [← List.flatten_append, List.take_append_drop]
     have e2 := congrArg List.length hf
     rw [e1, List.length_append, List.length_take] at e2
     omega
   have hxe : x = ((bytesOf b).drop (27 + n + (segs.take i).flatten.length)).take v := by
     have e1 : segs.flatten = (segs.take i).flatten ++ (x ++ (segs.drop (i + 1)).flatten) := by
       rw [← List.append_assoc, ← htk, ← List.flatten_append, List.take_append_drop]
     rw [hf] at e1
     have e2 : ((((bytesOf b).drop (27 + n)).take (tot (((bytesOf b).drop 27).take n))).drop (segs.take i).flatten.length).take v = (((segs.take i).flatten ++ (x ++ (segs.drop (i + 1)).flatten)).drop (segs.take i).flatten.length).take v := by rw [e1]
     rw [List.drop_left, List.take_left' hxl, List.drop_take, List.drop_drop, List.take_take, Nat.min_eq_left (by rw [htk, List.length_append] at hle; omega)] at e2
     exact e2.symm
   rw [htk, List.length_append, hxl] at hle
   have hat : (prS b n (i + 1)).1 = (prS b n i).1 + v := by rw [prS_at, ← hvv]
   refine ⟨by rw [hat, h1, htk, List.length_append, hxl]; omega, ?_⟩
   rw [hdr, join] at h2
   have hsp : ((bytesOf b).take ((prS b n i).1 + v)).drop (prS b n i).2.1 = ((bytesOf b).take (prS b n i).1).drop (prS b n i).2.1 ++ x := by
     rw [take_split hfr (by omega), h1, ← hxe]
   have hnil : segs.drop (i + 1) = [] ↔ i + 1 = n := by
     constructor
     · intro h
       have := congrArg List.length h
       rw [List.length_drop, List.length_nil] at this
       omega
     · intro h
       exact List.drop_of_length_le (by omega)
   have hstep : prS b n (i + 1) = if v < 255 ∨ i + 1 = n then ((prS b n i).1 + v, (prS b n i).1 + v, (prS b n i).2.2.1 ++ [b.extract (prS b n i).2.1 ((prS b n i).1 + v)], decide (v = 255)) else ((prS b n i).1 + v, (prS b n i).2.1, (prS b n i).2.2.1, (prS b n i).2.2.2) := by rw [hvv]; rfl
   rw [hstep]
   by_cases c : v < 255 ∨ i + 1 = n
   · rw [if_pos c]
     rw [if_pos (by rw [hxl, hnil]; exact c)] at h2
     show ((prS b n i).2.2.1 ++ [_]).map bytesOf ++ join (segs.drop (i + 1)) (((bytesOf b).take ((prS b n i).1 + v)).drop ((prS b n i).1 + v)) = _
     rw [show ((bytesOf b).take ((prS b n i).1 + v)).drop ((prS b n i).1 + v) = [] from List.drop_of_length_le (by rw [List.length_take]; omega), List.map_append, List.map_cons, List.map_nil, bytes_ext, hsp, List.append_assoc]
     exact h2
   · rw [if_neg c]
     rw [if_neg (by rw [hxl, hnil]; exact c)] at h2
     show (prS b n i).2.2.1.map bytesOf ++ join (segs.drop (i + 1)) (((bytesOf b).take ((prS b n i).1 + v)).drop (prS b n i).2.1) = _
     rw [hsp]
     exact h2
theorem prS_more (b : ByteArray) (n : Nat) : (prS b n n).2.2.2 = (decide (0 < n) && decide (bt (bytesOf b) (26 + n) = 255)) := by
 cases n with
 | zero => rfl
 | succ k =>
   simp only [prS]
   rw [if_pos (.inr trivial)]
   show decide _ = _
   rw [show 27 + k = 26 + (k + 1) by omega]
   simp
structure Reads (b : ByteArray) (p : Pg) (k : Nat) (g : PgI) : Prop where
 par : p.parts.map bytesOf = join g.segs []
 mor : p.more = true → g.segs ≠ []
 las : ∀ x, g.segs.getLast? = some x → (p.more = true ↔ x.length = 255)
 len : ∀ x ∈ g.segs, x.length ≤ 255
 hdr : g.hdr = (bytesOf b).take 27
 siz : g.sizes = g.segs.map fun x => ((x.length : Nat) : Int)
 gra : le ((g.hdr.drop 6).take 8) = p.gran
 fla : (bt g.hdr 5 : Int) = p.flags
 seq : le ((g.hdr.drop 18).take 4) = p.seq
 sig : g.hdr.take 5 = oggS
 cnt : bt g.hdr 26 = g.segs.length
theorem sizes_len {l : List Int} (h : Byt l) : l.map (fun s => ((s.toNat : Nat) : Int)) = l := by
 conv => rhs; rw [← List.map_id l]
 apply List.map_congr_left
 intro x hx
 have := h x hx
 show ((x.toNat : Nat) : Int) = x
 omega
theorem hz27 {L : List Int} : hz (L.take 27) = L.take 22 ++ [0, 0, 0, 0] ++ (L.take 27).drop 26 := by
 unfold hz
 rw [List.take_take]
 rfl
theorem last_bt {L : List Int} (hL : Byt L) {n : Nat} {x : List Int} {segs : List (List Int)} (hn : 27 + n ≤ L.length) (hs : segs.map (fun x => ((x.length : Nat) : Int)) = (L.drop 27).take n) (hx : segs.getLast? = some x) : bt L (26 + n) = x.length ∧ 0 < n := by
 have hsl : segs.length = n := by
   have := congrArg List.length hs
   rw [List.length_map, List.length_take, List.length_drop] at this
   omega
 rw [List.getLast?_eq_getElem?] at hx
 have hn0 : 0 < n := by
   have := (List.getElem?_eq_some_iff.1 hx).1
   omega
 have e1 := congrArg (fun l => l[n - 1]?) hs
 simp only [List.getElem?_map, List.getElem?_take, List.getElem?_drop, if_pos (show n - 1 < n by omega)] at e1
 rw [← hsl, hx, show 27 + (segs.length - 1) = 26 + segs.length by omega, bt_at hL (by omega)] at e1
 simp only [Option.map_some, Option.some.injEq] at e1
 rw [hsl] at e1
 exact ⟨by omega, hn0⟩
theorem sub27 {L : List Int} {a c : Nat} (h : a + c ≤ 27) : ((L.take 27).drop a).take c = (L.take (a + c)).drop a := by rw [List.take_drop, List.take_take, Nat.min_eq_left h]
theorem pageP_I {b : ByteArray} {p : Pg} {k : Nat} (h : pageP b = some (p, k)) : ∃ g, pageI (bytesOf b) = some (g, (bytesOf b).drop k) ∧ Reads b p k g := by
 have hbl := bytesOf_len b
 have hbb := byt_bytes b
 unfold pageP at h
 simp only at h
 split at h
 · cases h
 rename_i hno
 obtain ⟨n, hn⟩ : ∃ n, n = bt (bytesOf b) 26 := ⟨_, rfl⟩
 rw [← hn] at h hno
 have n1 : 27 ≤ b.size := by
   rcases Nat.lt_or_ge b.size 27 with c | c
   · exact absurd (.inl c) hno
   · exact c
 have n2 : (bytesOf b).take 5 = oggS := Classical.byContradiction fun c => hno (.inr (.inl c))
 have n3 : 27 + n ≤ b.size := by
   rcases Nat.lt_or_ge b.size (27 + n) with c | c
   · exact absurd (.inr (.inr (.inl c))) hno
   · exact c
 have n4 : (prS b n n).1 ≤ b.size := by
   rcases Nat.lt_or_ge b.size (prS b n n).1 with c | c
   · exact absurd (.inr (.inr (.inr (.inl c)))) hno
   · exact c
 have n5 : crcS ((bytesOf b).take 22 ++ [0, 0, 0, 0] ++ ((bytesOf b).take (prS b n n).1).drop 26) = le (((bytesOf b).take 26).drop 22) := Classical.byContradiction fun c => hno (.inr (.inr (.inr (.inr c))))
 have hprt : ∀ i, i ≤ n → (prS b n i).1 = 27 + n + tot ((((bytesOf b).drop 27).take n).take i) := by
   intro i
   induction i with
   | zero => intro _; simp [prS, tot]
   | succ i ih =>
     intro hi
     rw [prS_at, ih (by omega), List.take_add_one, tot_add, List.getElem?_take, if_pos (by omega), List.getElem?_drop, bt_at hbb (by omega)]
     show _ = 27 + n + (_ + ((((bt (bytesOf b) (27 + i) : Nat) : Int)).toNat + 0))
     omega
 have hT : (prS b n n).1 = 27 + n + tot (((bytesOf b).drop 27).take n) := by
   rw [hprt n (Nat.le_refl _), List.take_of_length_le (by rw [List.length_take]; omega)]
 have ht : tot (((bytesOf b).drop 27).take n) ≤ b.size - (27 + n) := by omega
 obtain ⟨segs, s1, s2, s3⟩ := segsI_ok (((bytesOf b).drop 27).take n) ((bytesOf b).drop (27 + n)) (by rw [List.length_drop, hbl]; exact ht)
 have hj := (prS_join n3 ht s2 s3 n (Nat.le_refl _)).2
 have hsl : segs.length = n := by
   have := congrArg List.length s3
   rw [List.length_map, List.length_map, List.length_take, List.length_drop, hbl] at this
   omega
 rw [List.drop_of_length_le (by omega)] at hj
 have hj : (prS b n n).2.2.1.map bytesOf = join segs [] := by
   rw [← hj]
   show _ = _ ++ []
   rw [List.append_nil]
 rw [sizes_len ((hbb.drop 27).take n)] at s3
 have hmore := prS_more b n
 have hdrop : (bytesOf b).drop (prS b n n).1 = ((bytesOf b).drop (27 + n)).drop (tot (((bytesOf b).drop 27).take n)) := by rw [List.drop_drop, hT]
 cases h
 refine ⟨⟨(bytesOf b).take 27, ((bytesOf b).drop 27).take n, segs⟩, ?_, ⟨hj, fun hm hs => ?_, fun x hx => ?_, fun x hx => ?_, rfl, s3.symm, ?_, ?_, ?_, ?_, ?_⟩⟩
 · unfold pageI
   rw [if_neg (by omega), ← hn, if_neg (by omega), s1]
   simp only
   rw [if_pos ?_, hdrop]
   rw [hz27, s2, sub27 (a := 22) (c := 4) (by omega), ← n5]
   have hd : ((bytesOf b).take (prS b n n).1).drop 26 = ((bytesOf b).take 27).drop 26 ++ ((bytesOf b).drop 27).take n ++ ((bytesOf b).drop (27 + n)).take (tot (((bytesOf b).drop 27).take n)) := by
     rw [hT, List.take_add, List.drop_append_of_le_length (by rw [List.length_take]; omega), List.take_add, List.drop_append_of_le_length (by rw [List.length_take]; omega)]
   rw [hd]
   simp only [List.append_assoc]
 · rw [hmore] at hm
   have : segs = [] := hs
   rw [this] at hsl
   have h0 : n = 0 := by rw [← hsl]; rfl
   rw [h0] at hm
   exact Bool.noConfusion hm
 · obtain ⟨q1, q2⟩ := last_bt hbb (by omega) s3 hx
   show (prS b n n).2.2.2 = true ↔ _
   rw [hmore, q1]
   simp [q2]
 · obtain ⟨i, hi, rfl⟩ := List.mem_iff_getElem.1 hx
   have hi : i < segs.length := hi
   have e1 : (segs.map fun x => ((x.length : Nat) : Int))[i]? = some ((segs[i].length : Nat) : Int) := by rw [List.getElem?_map, List.getElem?_eq_getElem hi]; rfl
   rw [s3] at e1
   have h256 : ((segs[i].length : Nat) : Int) < 256 := ((hbb.drop 27).take n _ (List.mem_of_getElem? e1)).2
   show segs[i].length ≤ 255
   omega
 · show le ((((bytesOf b).take 27).drop 6).take 8) = le (((bytesOf b).take 14).drop 6)
   rw [sub27 (by omega)]
 · show ((bt ((bytesOf b).take 27) 5 : Nat) : Int) = ((bt (bytesOf b) 5 : Nat) : Int)
   unfold bt
   rw [List.getD_eq_getElem?_getD, List.getD_eq_getElem?_getD, List.getElem?_take, if_pos (by decide)]
 · show le ((((bytesOf b).take 27).drop 18).take 4) = le (((bytesOf b).take 22).drop 18)
   rw [sub27 (by omega)]
 · show ((bytesOf b).take 27).take 5 = oggS
   rw [List.take_take]
   exact n2
 · show bt ((bytesOf b).take 27) 26 = segs.length
   rw [hsl, hn]
   unfold bt
   rw [List.getD_eq_getElem?_getD, List.getD_eq_getElem?_getD, List.getElem?_take, if_pos (by decide)]
end Go.Proofs.YtokkphocaloelaaGreatDoor

end
section
namespace Go.Proofs.YtokkphocaloelaaGreatDoor
open Go Go.Vc
set_option maxRecDepth 100000
set_option maxHeartbeats 8000000

theorem leL_cons (n k : Nat) : leL n (k + 1) = ((n % 256 : Nat) : Int) :: leL (n / 256) k := by
 unfold leL
 rw [List.range_succ_eq_map, List.map_cons, List.map_map]
 congr 1
 · simp
 · apply List.map_congr_left
   intro i _
   show ((n / 256 ^ (i + 1) % 256 : Nat) : Int) = ((n / 256 / 256 ^ i % 256 : Nat) : Int)
   rw [Nat.pow_succ, Nat.div_div_eq_div_mul, Nat.mul_comm (256 ^ i)]
theorem le_leL : ∀ (k n : Nat), n < 256 ^ k → le (leL n k) = n
 | 0, n, h => by
   have : n = 0 := by simpa using h
   subst this
   rfl
 | k + 1, n, h => by
   rw [leL_cons, le, Int.toNat_natCast, le_leL k (n / 256) (by rw [Nat.pow_succ] at h; omega)]
   omega
def Pg.pts (p : Pg) : List (List Int) := p.parts.map bytesOf
def Pg.segs (p : Pg) : List (List Int) := lace p.more p.pts
def lenI (l : List (List Int)) : List Int := l.map fun x => ((x.length : Nat) : Int)
structure Pg.good (p : Pg) : Prop where
 ser : p.ser < 4294967296
 seq : p.seq < 4294967296
 gran : p.gran < 18446744073709551616
 fl0 : 0 ≤ p.flags
 fl7 : p.flags ≤ 7
 cnt : p.segs.length ≤ 255
 mor : p.more = true → p.pts ≠ [] ∧ ∀ x, p.pts.getLast? = some x → ∃ n, x.length = 255 * (n + 1)
def pgHd (p : Pg) : List Int := oggS ++ [p.flags] ++ leL p.gran 8 ++ leL p.ser 4 ++ leL p.seq 4
def pgTl (p : Pg) : List Int := [((p.segs.length : Nat) : Int)] ++ lenI p.segs ++ p.pts.flatten
def pgSum (p : Pg) : Nat := crcS (pgHd p ++ [0, 0, 0, 0] ++ pgTl p)
def pgEnc (p : Pg) : List Int := pgHd p ++ leL (pgSum p) 4 ++ pgTl p
theorem pgHd_len (p : Pg) : (pgHd p).length = 22 := by
 unfold pgHd oggS
 simp only [List.length_append, leL_len, List.length_cons, List.length_nil]
theorem lace_flat : ∀ (ps : List (List Int)) (more : Bool), (more = true → ∀ x, ps.getLast? = some x → ∃ n, x.length = 255 * (n + 1)) → (lace more ps).flatten = ps.flatten
 | [], _, _ => rfl
 | [x], more, h => by
   show (lc x ++ (if [] = [] ∧ more = true then [] else [lr x]) ++ []).flatten = [x].flatten
   rw [List.append_nil, List.flatten_append]
   cases more with
   | true =>
     obtain ⟨n, hn⟩ := h rfl x rfl
     rw [if_pos ⟨rfl, rfl⟩]
     have : lr x = [] := by
       unfold lr
       rw [List.drop_of_length_le (by omega)]
     have h2 := lc_lr x
     rw [this, List.append_nil] at h2
     rw [h2]
     simp
   | false =>
     rw [if_neg (fun c => Bool.noConfusion c.2), List.flatten_singleton, lc_lr, List.flatten_singleton]
 | x :: y :: r, more, h => by
   show (lc x ++ (if y :: r = [] ∧ more = true then [] else [lr x]) ++ lace more (y :: r)).flatten = _
   rw [if_neg (fun c => List.cons_ne_nil _ _ c.1), List.flatten_append, List.flatten_append, List.flatten_singleton, lc_lr, lace_flat (y :: r) more fun hm z hz => h hm z (by rw [List.getLast?_cons_cons]; exact hz)]
   rfl
theorem lace_all (more : Bool) : ∀ (ps : List (List Int)), ∀ x ∈ lace more ps, x.length ≤ 255
 | [], x, hx => (List.not_mem_nil hx).elim
 | y :: r, x, hx => by
   rcases List.mem_append.1 hx with hx | hx
   · rcases List.mem_append.1 hx with hx | hx
     · rw [lc_all x hx]; exact Nat.le_refl _
     · split at hx
       · exact (List.not_mem_nil hx).elim
       · rw [List.mem_singleton.1 hx]
         have := lr_len y
         omega
   · exact lace_all more r x hx
theorem lace_last : ∀ (ps : List (List Int)) (more : Bool), ps ≠ [] → (more = true → ∀ x, ps.getLast? = some x → ∃ n, x.length = 255 * (n + 1)) → ∃ x, (lace more ps).getLast? = some x ∧ (more = true ↔ x.length = 255)
 | [], _, h, _ => absurd rfl h
 | [x], more, _, h => by
   have e0 : lace more [x] = lc x ++ (if ([] : List (List Int)) = [] ∧ more = true then [] else [lr x]) := List.append_nil _
   rw [e0]
   cases more with
   | true =>
     obtain ⟨n, hn⟩ := h rfl x rfl
     rw [if_pos ⟨rfl, rfl⟩, List.append_nil]
     have hne : lc x ≠ [] := by
       unfold lc
       rw [hn, show 255 * (n + 1) / 255 = n + 1 by omega]
       exact List.cons_ne_nil _ _
     exact ⟨_, List.getLast?_eq_some_getLast hne, fun _ => lc_all _ (List.getLast_mem hne), fun _ => rfl⟩
   | false =>
     rw [if_neg (fun c => Bool.noConfusion c.2)]
     refine ⟨lr x, by simp, fun c => Bool.noConfusion c, fun c => ?_⟩
     have := lr_len x
     omega
 | x :: y :: r, more, _, h => by
   obtain ⟨z, h1, h2⟩ := lace_last (y :: r) more (List.cons_ne_nil _ _) fun hm z hz => h hm z (by rw [List.getLast?_cons_cons]; exact hz)
   refine ⟨z, ?_, h2⟩
   show (lc x ++ (if y :: r = [] ∧ more = true then [] else [lr x]) ++ lace more (y :: r)).getLast? = some z
   rw [List.getLast?_append, h1]
   rfl
theorem tot_lens (l : List (List Int)) : tot (lenI l) = l.flatten.length := by
 induction l with
 | nil => rfl
 | cons x r ih =>
   show (((x.length : Nat) : Int)).toNat + tot (lenI r) = _
   rw [ih, List.flatten_cons, List.length_append, Int.toNat_natCast]
theorem byt_leL (n k : Nat) : Byt (leL n k) := leL_bytes n k
theorem pts_byt (p : Pg) : Byt p.pts.flatten := fun y hy => by
 obtain ⟨z, hz1, hz2⟩ := List.mem_flatten.1 hy
 obtain ⟨b, _, rfl⟩ := List.mem_map.1 hz1
 exact byt_bytes b y hz2
theorem pgHd_byt {p : Pg} (hg : p.good) : Byt (pgHd p) := by
 refine ((((?_ : Byt oggS).append ?_).append (byt_leL _ _)).append (byt_leL _ _)).append (byt_leL _ _)
 · intro x hx
   simp only [oggS, List.mem_cons, List.not_mem_nil, or_false] at hx
   omega
 · intro x hx
   have h0 := hg.fl0
   have h7 := hg.fl7
   rw [List.mem_singleton.1 hx]
   omega
theorem pgTl_byt {p : Pg} (hg : p.good) : Byt (pgTl p) := by
 refine (Byt.append ?_ ?_).append (pts_byt p)
 · intro x hx
   have := hg.cnt
   rw [List.mem_singleton.1 hx]
   omega
 · intro x hx
   obtain ⟨y, hy, rfl⟩ := List.mem_map.1 hx
   have := lace_all p.more p.pts y hy
   omega
theorem zero4_byt : Byt [0, 0, 0, 0] := fun x hx => by
 simp at hx
 subst hx
 decide
theorem pgSum_lt {p : Pg} (hg : p.good) : pgSum p < 4294967296 := crcS_lt (((pgHd_byt hg).append zero4_byt).append (pgTl_byt hg))
theorem pgEnc_byt {p : Pg} (hg : p.good) : Byt (pgEnc p) := ((pgHd_byt hg).append (byt_leL _ _)).append (pgTl_byt hg)
theorem segs_flat {p : Pg} (hg : p.good) : p.segs.flatten = p.pts.flatten := lace_flat _ _ fun hm => (hg.mor hm).2
theorem pgEnc_len {p : Pg} (hg : p.good) : (pgEnc p).length = 27 + p.segs.length + p.segs.flatten.length := by
 unfold pgEnc pgTl lenI
 simp only [List.length_append, leL_len, pgHd_len, List.length_cons, List.length_nil, List.length_map, segs_flat hg]
 omega
structure Lay (p : Pg) (L rest : List Int) : Prop where
 t22 : L.take 22 = pgHd p
 crc : (L.take 26).drop 22 = leL (pgSum p) 4
 cnt : bt L 26 = p.segs.length
 siz : (L.drop 27).take p.segs.length = lenI p.segs
 bod : L.drop (27 + p.segs.length) = p.segs.flatten ++ rest
 d26 : (L.take (pgEnc p).length).drop 26 = pgTl p
theorem lay_of {p : Pg} (hg : p.good) (rest : List Int) : Lay p (pgEnc p ++ rest) rest := by
 have h22 := pgHd_len p
 have hc : (leL (pgSum p) 4).length = 4 := leL_len _ _
 have e1 : pgEnc p ++ rest = pgHd p ++ (leL (pgSum p) 4 ++ (pgTl p ++ rest)) := by
   unfold pgEnc
   simp only [List.append_assoc]
 have e2 : pgEnc p ++ rest = (pgHd p ++ leL (pgSum p) 4) ++ (((p.segs.length : Nat) : Int) :: (lenI p.segs ++ (p.pts.flatten ++ rest))) := by
   unfold pgEnc pgTl
   simp only [List.append_assoc]
   rfl
 have hl26 : (pgHd p ++ leL (pgSum p) 4).length = 26 := by rw [List.length_append, h22, hc]
 have e3 : pgEnc p ++ rest = (pgHd p ++ leL (pgSum p) 4 ++ [((p.segs.length : Nat) : Int)]) ++ (lenI p.segs ++ (p.pts.flatten ++ rest)) := by
   rw [e2, List.append_assoc, List.append_assoc, List.append_assoc]
   rfl
 have hl27 : (pgHd p ++ leL (pgSum p) 4 ++ [((p.segs.length : Nat) : Int)]).length = 27 := by rw [List.length_append, hl26]; rfl
 have hll : (lenI p.segs).length = p.segs.length := by unfold lenI; rw [List.length_map]
 refine ⟨?_, ?_, ?_, ?_, ?_, ?_⟩
 · rw [e1, List.take_left' h22]
 · rw [e2, List.take_left' hl26, List.drop_left' h22]
 · rw [e2]
   unfold bt
   rw [List.getD_eq_getElem?_getD, List.getElem?_append_right (by omega), hl26]
   exact Int.toNat_natCast _
 · rw [e3, List.drop_left' hl27, List.take_left' hll]
 · rw [← List.drop_drop, e3, List.drop_left' hl27, List.drop_left' hll, segs_flat hg]
 · rw [List.take_left' rfl]
   unfold pgEnc
   rw [List.drop_left' hl26]
theorem pageP_enc {p : Pg} (hg : p.good) {b : ByteArray} {rest : List Int} (hb : bytesOf b = pgEnc p ++ rest) : pageP b = some (p, (pgEnc p).length) := by
 have hbl := bytesOf_len b
 have hbb := byt_bytes b
 have lay := lay_of hg rest
 have hel := pgEnc_len hg
 rw [← hb] at lay
 obtain ⟨n, hn⟩ : ∃ n, n = p.segs.length := ⟨_, rfl⟩
 have hlen : b.size = (pgEnc p).length + rest.length := by rw [← hbl, hb, List.length_append]
 have hcnt : bt (bytesOf b) 26 = n := by rw [lay.cnt, hn]
 have hsiz : ((bytesOf b).drop 27).take n = lenI p.segs := by rw [hn]; exact lay.siz
 have hbod : (bytesOf b).drop (27 + n) = p.segs.flatten ++ rest := by rw [hn]; exact lay.bod
 have ht : tot (((bytesOf b).drop 27).take n) = p.segs.flatten.length := by rw [hsiz, tot_lens]
 have hT : (prS b n n).1 = (pgEnc p).length ∧ (prS b n n).2.2.1.map bytesOf = join p.segs [] := by
   have hj := prS_join (b := b) (n := n) (segs := p.segs) (by omega) (by rw [ht]; omega) (by rw [ht, hbod, List.take_left]) (by
     rw [hsiz]
     exact (sizes_len (by
       intro x hx
       obtain ⟨y, hy, rfl⟩ := List.mem_map.1 hx
       have := lace_all p.more p.pts y hy
       omega)).symm) n (Nat.le_refl _)
   rw [List.take_of_length_le (by omega), List.drop_of_length_le (by omega)] at hj
   refine ⟨by rw [hj.1, hel, hn], ?_⟩
   rw [← hj.2]
   show _ = _ ++ []
   rw [List.append_nil]
 have hparts : (prS b n n).2.2.1 = p.parts := by
   have h1 : (prS b n n).2.2.1.map bytesOf = p.parts.map bytesOf := by
     rw [hT.2]
     exact join_lace _ _ fun hm => (hg.mor hm).2
   have inj : ∀ {l l' : List ByteArray}, l.map bytesOf = l'.map bytesOf → l = l' := by
     intro l
     induction l with
     | nil => intro l' h; cases l' with | nil => rfl | cons => cases h
     | cons x r ih =>
       intro l' h
       cases l' with
       | nil => cases h
       | cons y r' =>
         simp only [List.map_cons, List.cons.injEq] at h
         rw [bytes_inj h.1, ih h.2]
   exact inj h1
 have hmore : (prS b n n).2.2.2 = p.more := by
   rw [prS_more]
   by_cases hp : p.pts = []
   · have hs : p.segs = [] := by unfold Pg.segs; rw [hp]; rfl
     have hm : p.more = false := by
       cases h : p.more with
       | false => rfl
       | true => exact absurd hp (hg.mor h).1
     rw [hm, show n = 0 by rw [hn, hs]; rfl]
     rfl
   · obtain ⟨x, hx1, hx2⟩ := lace_last p.pts p.more hp fun hm => (hg.mor hm).2
     obtain ⟨q1, q2⟩ := last_bt hbb (n := n) (segs := p.segs) (by omega) (by rw [hsiz]; rfl) hx1
     rw [q1]
     cases h : p.more with
     | true => simp [q2, hx2.1 h]
     | false =>
       have : x.length ≠ 255 := fun c => by rw [hx2.2 c] at h; cases h
       simp [this]
 have f1 : ((bytesOf b).take 18).drop 14 = leL p.ser 4 ∧ ((bytesOf b).take 22).drop 18 = leL p.seq 4 ∧ ((bytesOf b).take 14).drop 6 = leL p.gran 8 ∧ (bytesOf b).take 5 = oggS ∧ bt (bytesOf b) 5 = p.flags.toNat := by
   have e : ∀ c, c ≤ 22 → (bytesOf b).take c = (pgHd p).take c := fun c hc => by rw [← lay.t22, List.take_take, Nat.min_eq_left hc]
   rw [e 18 (by omega), e 22 (by omega), e 14 (by omega), e 5 (by omega)]
   have h8 : (leL p.gran 8).length = 8 := leL_len _ _
   have h4 : (leL p.ser 4).length = 4 := leL_len _ _
   have h4' : (leL p.seq 4).length = 4 := leL_len _ _
   have h6 : (oggS ++ [p.flags]).length = 6 := rfl
   have h14 : (oggS ++ [p.flags] ++ leL p.gran 8).length = 14 := by rw [List.length_append, h6, h8]
   have h18 : (oggS ++ [p.flags] ++ leL p.gran 8 ++ leL p.ser 4).length = 18 := by rw [List.length_append, h14, h4]
   refine ⟨?_, ?_, ?_, ?_, ?_⟩
   · unfold pgHd
     rw [List.take_left' h18, List.drop_left' h14]
   · rw [List.take_of_length_le (Nat.le_of_eq (pgHd_len p))]
     unfold pgHd
     rw [List.drop_left' h18]
   · unfold pgHd
     rw [List.append_assoc, List.take_left' h14, List.drop_left' h6]
   · unfold pgHd
     rw [List.append_assoc, List.append_assoc, List.append_assoc]
     exact List.take_left' rfl
   · have hat : (bytesOf b)[5]? = (pgHd p)[5]? := by rw [← lay.t22, List.getElem?_take, if_pos (by decide)]
     unfold bt
     rw [List.getD_eq_getElem?_getD, hat]
     rfl
 obtain ⟨f1, f2, f3, f4, f5⟩ := f1
 have hfl : (((p.flags.toNat : Nat)) : Int) = p.flags := Int.toNat_of_nonneg hg.fl0
 unfold pageP
 simp only
 rw [hcnt, hT.1, if_neg ?_, f1, f2, f3, f5, hparts, hmore, le_leL 4 _ (by exact hg.ser), le_leL 4 _ (by exact hg.seq), le_leL 8 _ (by exact hg.gran), hfl]
 rintro (h | h | h | h | h)
 · omega
 · exact h f4
 · omega
 · omega
 · apply h
   rw [lay.t22, lay.d26, lay.crc, le_leL 4 _ (pgSum_lt hg)]
   rfl
end Go.Proofs.YtokkphocaloelaaGreatDoor

end
section
namespace Go.Proofs.YtokkphocaloelaaGreatDoor
open Go Go.Vc
set_option maxRecDepth 100000
set_option maxHeartbeats 8000000

def strsAt (w0 : World) (v : Value) (ss : List ByteArray) : Prop :=
 (v = .slice none 0 0 ∧ ss = []) ∨ ∃ a c, v = .slice (some a) ss.length c ∧ ss.length ≤ c ∧ ∀ (i : Nat) s, ss[i]? = some s → w0.cell? (a.add (i * 1)) = some (.string s)
def szV (i : Nat) (l : List Int) : CV := match l with
 | [] => .val (.slice none 0 0)
 | _ :: _ => .vec i l.length
def szH (l : List Int) : List Blk := match l with
 | [] => []
 | _ :: _ => [rowB l]
def pgA (p : Pg) (v : Value) : List CV := [.val (.int .u32 p.ser), .val (.int .u32 p.seq), .val (.int .u64 p.gran), .val (.int .i64 p.flags), .val v, .val (.bool p.more)]
def Pg.bad (p : Pg) : Prop := p.more = true ∧ ∃ x, p.pts.getLast? = some x ∧ ¬ ∃ n, x.length = 255 * (n + 1)
theorem lenI_app (a b : List (List Int)) : lenI (a ++ b) = lenI a ++ lenI b := by unfold lenI; rw [List.map_append]
theorem lenI_lc (x : List Int) : lenI (lc x) = List.replicate (x.length / 255) 255 := by
 have : ∀ (n : Nat) (x : List Int), 255 * n ≤ x.length → lenI (full n x) = List.replicate n 255 := by
   intro n
   induction n with
   | zero => intro x _; rfl
   | succ n ih =>
     intro x hx
     show ((((x.take 255).length : Nat) : Int)) :: lenI (full n (x.drop 255)) = _
     rw [ih _ (by rw [List.length_drop]; omega), List.length_take, Nat.min_eq_left (by omega), List.replicate_succ]
     rfl
 exact this _ x (by omega)
theorem lenI_lr (x : List Int) : lenI [lr x] = [((x.length % 255 : Nat) : Int)] := by
 show [((((lr x).length : Nat)) : Int)] = _
 unfold lr
 rw [List.length_drop]
 congr 2
 omega
def sgE (v : Value) (m i : Nat) (out : List Int) : Env := [(1, .o (.c (.ptr 0 0))), (4, .o (.c (szV 1 out))), (9, .o (.c (.val v))), (10, .o (.c (.val (.int .i64 (m : Nat))))), (11, .o (.c (.val (.int .i64 (i : Nat)))))]
def sgH (p : Pg) (v : Value) (out : List Int) : List Blk := .cells 57 (pgA p v) :: szH out
theorem segmentsW (w0 : World) {p : Pg} {v : Value} (hv : strsAt w0 v p.parts) (hl : p.parts.length ≤ 1099511627776) (hz : ∀ s ∈ p.parts, s.size ≤ 1099511627776) (hs : p.segs.length ≤ 1099511627776) :
   CallsA Tryz.prog w0 87 [.a (pgA p v)] [] fun r H =>
     (p.bad ∧ r = .t [.c (.val (.slice none 0 0)), .c (.val (.bool false))] ∧ H = []) ∨
     (¬ p.bad ∧ ∃ b : Bool, (b = true ↔ (p.segs.length ≤ 255 ∧ (p.more = true → p.parts ≠ []))) ∧ r = .t [.c (szV 0 (lenI p.segs)), .c (.val (.bool b))] ∧ H = szH (lenI p.segs)) := by
 refine callsA_of_ev c87_ ?_
 obtain ⟨S, hS⟩ : ∃ S, S = lenI p.segs := ⟨_, rfl⟩
 have hSl : S.length = p.segs.length := by rw [hS]; unfold lenI; rw [List.length_map]
 rw [← hS]
 conv => whnf
 refine Or.inr ⟨PLift (¬ p.bad), fun _ => ⟨[(1, .o (.c (.ptr 0 0))), (4, .o (.c (szV 1 S)))], sgH p v S⟩, ?_, fun ⟨hnb⟩ => ?_⟩
 · rcases hv with ⟨rfl, hp⟩ | ⟨a, c, rfl, hc, hb⟩
   · have hS0 : S = [] := by rw [hS]; unfold Pg.segs Pg.pts; rw [hp]; rfl
     subst hS0
     conv => whnf
     refine ⟨Unit, fun _ => ⟨sgE (.slice none 0 0) 0 0 [], sgH p (.slice none 0 0) []⟩, fun _ => 0, ⟨(), [0], ⟨rfl, ⟨rfl, rfl, trivial⟩, rfl⟩, rfl, rfl, rfl, rfl, rfl, trivial⟩, fun _ => ?_⟩
     conv => whnf
     refine ⟨fun g => zF g, fun _ => ?_⟩
     conv => whnf
     exact ⟨⟨fun hbad => by
       obtain ⟨_, x, hx, _⟩ := hbad
       unfold Pg.pts at hx
       rw [hp] at hx
       cases hx⟩, [0], ⟨rfl, ⟨rfl, rfl, trivial⟩, rfl⟩, rfl, rfl, trivial⟩
   · conv => whnf
     refine ⟨{x : Nat × List Int // x.1 ≤ p.parts.length ∧ S = x.2 ++ lenI (lace p.more (p.pts.drop x.1)) ∧ (x.1 = p.parts.length → p.more = true → p.parts = [])}, fun ⟨⟨i, out⟩, _⟩ => ⟨sgE (.slice (some a) p.parts.length c) p.parts.length i out, sgH p (.slice (some a) p.parts.length c) out⟩, fun x => p.parts.length - x.1.1,
       ⟨⟨(0, []), Nat.zero_le _, hS, fun h _ => List.eq_nil_of_length_eq_zero h.symm⟩, [0], ⟨rfl, ⟨rfl, rfl, trivial⟩, rfl⟩, rfl, rfl, rfl, rfl, rfl, trivial⟩, fun ⟨⟨i, out⟩, hi, ho, hend⟩ => ?_⟩
     simp only at hi ho hend
     cases out with
     | nil =>
       conv => whnf
       refine ⟨fun g => ?_, fun g => ?_⟩
       · have g : i < p.parts.length := lt_t g
         obtain ⟨s, hsx⟩ : ∃ s, p.parts[i]? = some s := ⟨_, List.getElem?_eq_getElem g⟩
         have hsz := hz s (List.mem_of_getElem? hsx)
         have hXl : (bytesOf s).length = s.size := bytesOf_len s
         have hpt : p.pts[i]? = some (bytesOf s) := by unfold Pg.pts; rw [List.getElem?_map, hsx]; rfl
         have hS2 : S = [] ++ (lenI (lc (bytesOf s)) ++ lenI (if p.pts.drop (i + 1) = [] ∧ p.more = true then [] else [lr (bytesOf s)]) ++ lenI (lace p.more (p.pts.drop (i + 1)))) := by
           rw [ho, show p.pts.drop i = bytesOf s :: p.pts.drop (i + 1) from List.drop_eq_getElem?_toList_append.trans (by rw [hpt]; rfl), lace, lenI_app, lenI_app]
         conv => whnf
         refine Or.inr ⟨{o' : List Int // S = o' ++ lenI (lace p.more (p.pts.drop (i + 1))) ∧ ¬ (i + 1 = p.parts.length ∧ p.more = true)}, fun ⟨o', _⟩ => ⟨sgE (.slice (some a) p.parts.length c) p.parts.length i o', sgH p (.slice (some a) p.parts.length c) o'⟩, ?_, fun ⟨o', ho', hne'⟩ => ?_⟩
         · conv => whnf
           refine ⟨⟨Int.natCast_nonneg i, Int.ofNat_lt.2 g⟩, ?_⟩
           conv => whnf
           refine ⟨.string s, ?_⟩
           conv => whnf
           refine ⟨hb i s hsx, ?_⟩
           conv => whnf
           refine ⟨rfl, ?_⟩
           conv => whnf
           refine Or.inr ⟨Unit, fun _ => ⟨(5, .o (.c (.val (.int .i64 (i : Nat))))) :: (6, .o (.c (.val (.string s)))) :: (7, .o (.c (.val (.int .i64 ((s.size % 255 : Nat) : Int))))) :: sgE (.slice (some a) p.parts.length c) p.parts.length i ([] ++ List.replicate (s.size / 255) 255), sgH p (.slice (some a) p.parts.length c) ([] ++ List.replicate (s.size / 255) 255)⟩, ?_, fun _ => ?_⟩
           · conv => whnf
             refine ⟨{x : Nat × List Int // x.1 ≤ s.size / 255 ∧ x.2 = [] ++ List.replicate x.1 255}, fun ⟨⟨j, oj⟩, _⟩ => ⟨(5, .o (.c (.val (.int .i64 (i : Nat))))) :: (6, .o (.c (.val (.string s)))) :: (7, .o (.c (.val (.int .i64 ((s.size - 255 * j : Nat) : Int))))) :: sgE (.slice (some a) p.parts.length c) p.parts.length i oj, sgH p (.slice (some a) p.parts.length c) oj⟩, fun x => s.size - 255 * x.1.1,
               ⟨⟨(0, []), Nat.zero_le _, (List.append_nil _).symm⟩, [0], ⟨rfl, ⟨rfl, rfl, trivial⟩, rfl⟩, rfl, rfl, rfl, rfl, rfl, rfl, rfl, rfl, trivial⟩, fun ⟨⟨j, oj⟩, hj, hoj⟩ => ?_⟩
             simp only at hj hoj
             have hojl : oj.length ≤ S.length := by
               rw [hoj, hS2]
               simp only [List.length_append, lenI_lc, List.length_replicate, hXl]
               omega
             have hw2 : IntKind.i64.wrap (((s.size - 255 * j : Nat) : Int) - ((255 : Nat) : Int)) = if 255 ≤ s.size - 255 * j then ((s.size - 255 * (j + 1) : Nat) : Int) else ((s.size - 255 * j : Nat) : Int) - 255 := by
               rw [IntKind.wrap_i64]
               split <;> omega
             cases oj with
             | nil =>
               conv => whnf
               refine ⟨fun g1 => ?_, fun g1 => ?_⟩
               · have g1 : 255 ≤ s.size - 255 * j := ge_t g1
                 rw [if_pos g1] at hw2
                 have hjn : j + 1 ≤ s.size / 255 := by omega
                 conv => whnf
                 refine ⟨by omega, Int, encI .u8, [], [255], fun _ => rfl, ⟨rfl, rfl, rfl⟩, by simp only [List.length_cons, List.length_nil]; omega, by simp only [List.length_cons, List.length_nil]; omega, ?_⟩
                 conv => whnf
                 exact ⟨⟨(j + 1, [255]), hjn, by rw [List.replicate_succ', ← List.append_assoc, ← hoj]; rfl⟩, ⟨[0, 2], ⟨rfl, ⟨rfl, rfl, rfl, rfl, trivial⟩, rfl⟩, rfl, rfl, eq_i64 hw2, rfl, rfl, rfl, rfl, rfl, trivial⟩, by show s.size - 255 * (j + 1) < s.size - 255 * j; omega⟩
               · have g1 : s.size - 255 * j < 255 := ge_f g1
                 obtain rfl : j = s.size / 255 := by omega
                 conv => whnf
                 rw [← hoj]
                 exact ⟨(), [0], ⟨rfl, ⟨rfl, rfl, trivial⟩, rfl⟩, rfl, rfl, eq_i64 (by omega), rfl, rfl, rfl, rfl, rfl, trivial⟩
             | cons o1 or =>
               conv => whnf
               refine ⟨fun g1 => ?_, fun g1 => ?_⟩
               · have g1 : 255 ≤ s.size - 255 * j := ge_t g1
                 rw [if_pos g1] at hw2
                 have hjn : j + 1 ≤ s.size / 255 := by omega
                 conv => whnf
                 refine ⟨rfl, [255], ⟨rfl, rfl, rfl⟩, by rw [List.length_append, List.length_singleton]; omega, by rw [List.length_append, List.length_singleton]; omega, ?_⟩
                 conv => whnf
                 exact ⟨⟨(j + 1, o1 :: (or ++ [255])), hjn, by rw [List.replicate_succ', ← List.append_assoc, ← hoj]; rfl⟩, ⟨[0, 3], ⟨rfl, ⟨rfl, rfl, rfl, rfl, trivial⟩, rfl⟩, rfl, rfl, eq_i64 hw2, rfl, rfl, rfl, rfl, rfl, trivial⟩, by show s.size - 255 * (j + 1) < s.size - 255 * j; omega⟩
               · have g1 : s.size - 255 * j < 255 := ge_f g1
                 obtain rfl : j = s.size / 255 := by omega
                 conv => whnf
                 rw [← hoj]
                 exact ⟨(), [0, 1], ⟨rfl, ⟨rfl, rfl, rfl, rfl, trivial⟩, rfl⟩, rfl, rfl, eq_i64 (by omega), rfl, rfl, rfl, rfl, rfl, trivial⟩
           · obtain ⟨o2, ho2⟩ : ∃ o2 : List Int, o2 = [] ++ List.replicate (s.size / 255) 255 := ⟨_, rfl⟩
             rw [← ho2]
             have hw3 : IntKind.i64.wrap (((p.parts.length : Nat) : Int) - ((1 : Nat) : Int)) = ((p.parts.length - 1 : Nat) : Int) := by rw [IntKind.wrap_i64]; omega
             have h8 : IntKind.u8.wrap ((s.size % 255 : Nat) : Int) = ((s.size % 255 : Nat) : Int) := nwrap8 (by omega)
             have hlast : i + 1 = p.parts.length → p.more = true → S = o2 := by
               intro h1 h2
               rw [hS2, if_pos ⟨List.drop_of_length_le (by unfold Pg.pts; rw [List.length_map]; omega), h2⟩, List.drop_of_length_le (by unfold Pg.pts; rw [List.length_map]; omega), lenI_lc, hXl, ho2]
               show _ ++ (_ ++ [] ++ []) = _
               rw [List.append_nil, List.append_nil]
             have hgo : ¬ (i + 1 = p.parts.length ∧ p.more = true) → S = (o2 ++ [((s.size % 255 : Nat) : Int)]) ++ lenI (lace p.more (p.pts.drop (i + 1))) := by
               intro h1
               have hne : ¬ (p.pts.drop (i + 1) = [] ∧ p.more = true) := by
                 rintro ⟨h2, h3⟩
                 refine h1 ⟨?_, h3⟩
                 have := congrArg List.length h2
                 rw [List.length_drop, List.length_nil] at this
                 unfold Pg.pts at this
                 rw [List.length_map] at this
                 omega
               rw [hS2, if_neg hne, lenI_lc, lenI_lr, hXl, ho2]
               simp only [List.append_assoc]
             have hptl : i + 1 = p.parts.length → p.pts.getLast? = some (bytesOf s) := by
               intro h1
               rw [List.getLast?_eq_getElem?]
               unfold Pg.pts at hpt ⊢
               rw [List.length_map, show p.parts.length - 1 = i by omega]
               exact hpt
             have ho2l : o2.length ≤ S.length := by
               rw [ho2, hS2]
               simp only [List.length_append, lenI_lc, List.length_replicate, hXl]
               omega
             cases o2 with
             | nil =>
               conv => whnf
               refine Or.inl ?_
               conv => whnf
               rw [hw3]
               refine ⟨fun g1 => ?_, fun g1 => ?_⟩
               · have g1 : i + 1 = p.parts.length := by
                   have := beq_t g1
                   omega
                 conv => whnf
                 refine ⟨fun g2 => ?_, fun g2 => ?_⟩
                 · have g2 : p.more = true := g2
                   conv => whnf
                   refine Or.inl ?_
                   conv => whnf
                   refine ⟨fun g3 => ?_, fun g3 => ?_⟩
                   · have g3 : s.size % 255 ≠ 0 := bne_t (b := 0) g3
                     conv => whnf
                     exact Or.inr ⟨[], .t [.c (.val (.slice none 0 0)), .c (.val (.bool false))], [], ⟨rfl, trivial, rfl⟩, rfl, .inl ⟨⟨g2, _, hptl g1, fun ⟨n, hn⟩ => by rw [hXl] at hn; omega⟩, rfl, rfl⟩⟩
                   · have g3 : s.size % 255 = 0 := bne_f (b := 0) g3
                     conv => whnf
                     refine ⟨fun g4 => ?_, fun g4 => ?_⟩
                     · have g4 : s.size = 0 := by rw [strb_t g4]; rfl
                       conv => whnf
                       exact Or.inr ⟨[], .t [.c (.val (.slice none 0 0)), .c (.val (.bool false))], [], ⟨rfl, trivial, rfl⟩, rfl, .inl ⟨⟨g2, _, hptl g1, fun ⟨n, hn⟩ => by rw [hXl] at hn; omega⟩, rfl, rfl⟩⟩
                     · have g4 : s.size ≠ 0 := fun c => strb_f g4 (ByteArray.ext (Array.eq_empty_of_size_eq_zero c))
                       conv => whnf
                       rw [hlast g1 g2]
                       refine ⟨⟨?_⟩, [0], ⟨rfl, ⟨rfl, rfl, trivial⟩, rfl⟩, rfl, rfl, trivial⟩
                       rintro ⟨_, x, hx, hx2⟩
                       rw [hptl g1] at hx
                       cases hx
                       exact hx2 ⟨s.size / 255 - 1, by rw [hXl]; omega⟩
                 · have g2 : p.more = false := g2
                   have h1 : ¬ (i + 1 = p.parts.length ∧ p.more = true) := fun c => by rw [g2] at c; exact Bool.noConfusion c.2
                   conv => whnf
                   rw [h8]
                   conv => whnf
                   refine ⟨by omega, Int, encI .u8, [], [((s.size % 255 : Nat) : Int)], fun _ => rfl, ⟨rfl, rfl, rfl⟩, by simp only [List.length_cons, List.length_nil]; omega, by simp only [List.length_cons, List.length_nil]; omega, ?_⟩
                   conv => whnf
                   exact ⟨⟨[((s.size % 255 : Nat) : Int)], hgo h1, h1⟩, [0, 2], ⟨rfl, ⟨rfl, rfl, rfl, rfl, trivial⟩, rfl⟩, rfl, rfl, rfl, rfl, rfl, trivial⟩
               · have g1 : i + 1 ≠ p.parts.length := by
                   have := beq_f g1
                   omega
                 have h1 : ¬ (i + 1 = p.parts.length ∧ p.more = true) := fun c => g1 c.1
                 conv => whnf
                 rw [h8]
                 conv => whnf
                 refine ⟨by omega, Int, encI .u8, [], [((s.size % 255 : Nat) : Int)], fun _ => rfl, ⟨rfl, rfl, rfl⟩, by simp only [List.length_cons, List.length_nil]; omega, by simp only [List.length_cons, List.length_nil]; omega, ?_⟩
                 conv => whnf
                 exact ⟨⟨[((s.size % 255 : Nat) : Int)], hgo h1, h1⟩, [0, 2], ⟨rfl, ⟨rfl, rfl, rfl, rfl, trivial⟩, rfl⟩, rfl, rfl, rfl, rfl, rfl, trivial⟩
             | cons o1 or =>
               conv => whnf
               refine Or.inl ?_
               conv => whnf
               rw [hw3]
               refine ⟨fun g1 => ?_, fun g1 => ?_⟩
               · have g1 : i + 1 = p.parts.length := by
                   have := beq_t g1
                   omega
                 conv => whnf
                 refine ⟨fun g2 => ?_, fun g2 => ?_⟩
                 · have g2 : p.more = true := g2
                   conv => whnf
                   refine Or.inl ?_
                   conv => whnf
                   refine ⟨fun g3 => ?_, fun g3 => ?_⟩
                   · have g3 : s.size % 255 ≠ 0 := bne_t (b := 0) g3
                     conv => whnf
                     exact Or.inr ⟨[], .t [.c (.val (.slice none 0 0)), .c (.val (.bool false))], [], ⟨rfl, trivial, rfl⟩, rfl, .inl ⟨⟨g2, _, hptl g1, fun ⟨n, hn⟩ => by rw [hXl] at hn; omega⟩, rfl, rfl⟩⟩
                   · have g3 : s.size % 255 = 0 := bne_f (b := 0) g3
                     conv => whnf
                     refine ⟨fun g4 => ?_, fun g4 => ?_⟩
                     · have g4 : s.size = 0 := by rw [strb_t g4]; rfl
                       conv => whnf
                       exact Or.inr ⟨[], .t [.c (.val (.slice none 0 0)), .c (.val (.bool false))], [], ⟨rfl, trivial, rfl⟩, rfl, .inl ⟨⟨g2, _, hptl g1, fun ⟨n, hn⟩ => by rw [hXl] at hn; omega⟩, rfl, rfl⟩⟩
                     · have g4 : s.size ≠ 0 := fun c => strb_f g4 (ByteArray.ext (Array.eq_empty_of_size_eq_zero c))
                       conv => whnf
                       rw [hlast g1 g2]
                       refine ⟨⟨?_⟩, [0, 1], ⟨rfl, ⟨rfl, rfl, rfl, rfl, trivial⟩, rfl⟩, rfl, rfl, trivial⟩
                       rintro ⟨_, x, hx, hx2⟩
                       rw [hptl g1] at hx
                       cases hx
                       exact hx2 ⟨s.size / 255 - 1, by rw [hXl]; omega⟩
                 · have g2 : p.more = false := g2
                   have h1 : ¬ (i + 1 = p.parts.length ∧ p.more = true) := fun c => by rw [g2] at c; exact Bool.noConfusion c.2
                   conv => whnf
                   rw [h8]
                   conv => whnf
                   refine ⟨rfl, [((s.size % 255 : Nat) : Int)], ⟨rfl, rfl, rfl⟩, by rw [List.length_append, List.length_singleton]; omega, by rw [List.length_append, List.length_singleton]; omega, ?_⟩
                   conv => whnf
                   exact ⟨⟨o1 :: (or ++ [((s.size % 255 : Nat) : Int)]), hgo h1, h1⟩, [0, 3], ⟨rfl, ⟨rfl, rfl, rfl, rfl, trivial⟩, rfl⟩, rfl, rfl, rfl, rfl, rfl, trivial⟩
               · have g1 : i + 1 ≠ p.parts.length := by
                   have := beq_f g1
                   omega
                 have h1 : ¬ (i + 1 = p.parts.length ∧ p.more = true) := fun c => g1 c.1
                 conv => whnf
                 rw [h8]
                 conv => whnf
                 refine ⟨rfl, [((s.size % 255 : Nat) : Int)], ⟨rfl, rfl, rfl⟩, by rw [List.length_append, List.length_singleton]; omega, by rw [List.length_append, List.length_singleton]; omega, ?_⟩
                 conv => whnf
                 exact ⟨⟨o1 :: (or ++ [((s.size % 255 : Nat) : Int)]), hgo h1, h1⟩, [0, 3], ⟨rfl, ⟨rfl, rfl, rfl, rfl, trivial⟩, rfl⟩, rfl, rfl, rfl, rfl, rfl, trivial⟩

         · cases o' with
           | nil =>
             conv => whnf
             exact ⟨⟨(i + 1, []), g, ho', fun a b => absurd ⟨a, b⟩ hne'⟩, ⟨[0], ⟨rfl, ⟨rfl, rfl, trivial⟩, rfl⟩, rfl, rfl, rfl, rfl, eq_i64 (by rw [nadd, nwrapi (by omega)]), trivial⟩, by show p.parts.length - (i + 1) < p.parts.length - i; omega⟩
           | cons o1 or =>
             conv => whnf
             exact ⟨⟨(i + 1, o1 :: or), g, ho', fun a b => absurd ⟨a, b⟩ hne'⟩, ⟨[0, 1], ⟨rfl, ⟨rfl, rfl, rfl, rfl, trivial⟩, rfl⟩, rfl, rfl, rfl, rfl, eq_i64 (by rw [nadd, nwrapi (by omega)]), trivial⟩, by show p.parts.length - (i + 1) < p.parts.length - i; omega⟩
       · have g : p.parts.length ≤ i := lt_f g
         have hdn : p.pts.drop i = [] := List.drop_of_length_le (by unfold Pg.pts; rw [List.length_map]; exact g)
         rw [hdn] at ho
         have ho : S = [] := by rw [ho]; exact List.append_nil _
         conv => whnf
         rw [ho]
         refine ⟨⟨?_⟩, [0], ⟨rfl, ⟨rfl, rfl, trivial⟩, rfl⟩, rfl, rfl, trivial⟩
         rintro ⟨hm, x, hx, hx2⟩
         have hnil := hend (by omega) hm
         unfold Pg.pts at hx
         rw [hnil] at hx
         cases hx
     | cons o0 ol =>
       conv => whnf
       refine ⟨fun g => ?_, fun g => ?_⟩
       · have g : i < p.parts.length := lt_t g
         obtain ⟨s, hsx⟩ : ∃ s, p.parts[i]? = some s := ⟨_, List.getElem?_eq_getElem g⟩
         have hsz := hz s (List.mem_of_getElem? hsx)
         have hXl : (bytesOf s).length = s.size := bytesOf_len s
         have hpt : p.pts[i]? = some (bytesOf s) := by unfold Pg.pts; rw [List.getElem?_map, hsx]; rfl
         have hS2 : S = (o0 :: ol) ++ (lenI (lc (bytesOf s)) ++ lenI (if p.pts.drop (i + 1) = [] ∧ p.more = true then [] else [lr (bytesOf s)]) ++ lenI (lace p.more (p.pts.drop (i + 1)))) := by
           rw [ho, show p.pts.drop i = bytesOf s :: p.pts.drop (i + 1) from List.drop_eq_getElem?_toList_append.trans (by rw [hpt]; rfl), lace, lenI_app, lenI_app]
         conv => whnf
         refine Or.inr ⟨{o' : List Int // S = o' ++ lenI (lace p.more (p.pts.drop (i + 1))) ∧ ¬ (i + 1 = p.parts.length ∧ p.more = true)}, fun ⟨o', _⟩ => ⟨sgE (.slice (some a) p.parts.length c) p.parts.length i o', sgH p (.slice (some a) p.parts.length c) o'⟩, ?_, fun ⟨o', ho', hne'⟩ => ?_⟩
         · conv => whnf
           refine ⟨⟨Int.natCast_nonneg i, Int.ofNat_lt.2 g⟩, ?_⟩
           conv => whnf
           refine ⟨.string s, ?_⟩
           conv => whnf
           refine ⟨hb i s hsx, ?_⟩
           conv => whnf
           refine ⟨rfl, ?_⟩
           conv => whnf
           refine Or.inr ⟨Unit, fun _ => ⟨(5, .o (.c (.val (.int .i64 (i : Nat))))) :: (6, .o (.c (.val (.string s)))) :: (7, .o (.c (.val (.int .i64 ((s.size % 255 : Nat) : Int))))) :: sgE (.slice (some a) p.parts.length c) p.parts.length i ((o0 :: ol) ++ List.replicate (s.size / 255) 255), sgH p (.slice (some a) p.parts.length c) ((o0 :: ol) ++ List.replicate (s.size / 255) 255)⟩, ?_, fun _ => ?_⟩
           · conv => whnf
             refine ⟨{x : Nat × List Int // x.1 ≤ s.size / 255 ∧ x.2 = (o0 :: ol) ++ List.replicate x.1 255}, fun ⟨⟨j, oj⟩, _⟩ => ⟨(5, .o (.c (.val (.int .i64 (i : Nat))))) :: (6, .o (.c (.val (.string s)))) :: (7, .o (.c (.val (.int .i64 ((s.size - 255 * j : Nat) : Int))))) :: sgE (.slice (some a) p.parts.length c) p.parts.length i oj, sgH p (.slice (some a) p.parts.length c) oj⟩, fun x => s.size - 255 * x.1.1,
               ⟨⟨(0, (o0 :: ol)), Nat.zero_le _, (List.append_nil _).symm⟩, [0, 1], ⟨rfl, ⟨rfl, rfl, rfl, rfl, trivial⟩, rfl⟩, rfl, rfl, rfl, rfl, rfl, rfl, rfl, rfl, trivial⟩, fun ⟨⟨j, oj⟩, hj, hoj⟩ => ?_⟩
             simp only at hj hoj
             have hojl : oj.length ≤ S.length := by
               rw [hoj, hS2]
               simp only [List.length_append, lenI_lc, List.length_replicate, hXl]
               omega
             have hw2 : IntKind.i64.wrap (((s.size - 255 * j : Nat) : Int) - ((255 : Nat) : Int)) = if 255 ≤ s.size - 255 * j then ((s.size - 255 * (j + 1) : Nat) : Int) else ((s.size - 255 * j : Nat) : Int) - 255 := by
               rw [IntKind.wrap_i64]
               split <;> omega
             cases oj with
             | nil =>
               conv => whnf
               refine ⟨fun g1 => ?_, fun g1 => ?_⟩
               · have g1 : 255 ≤ s.size - 255 * j := ge_t g1
                 rw [if_pos g1] at hw2
                 have hjn : j + 1 ≤ s.size / 255 := by omega
                 conv => whnf
                 refine ⟨by omega, Int, encI .u8, [], [255], fun _ => rfl, ⟨rfl, rfl, rfl⟩, by simp only [List.length_cons, List.length_nil]; omega, by simp only [List.length_cons, List.length_nil]; omega, ?_⟩
                 conv => whnf
                 exact ⟨⟨(j + 1, [255]), hjn, by rw [List.replicate_succ', ← List.append_assoc, ← hoj]; rfl⟩, ⟨[0, 2], ⟨rfl, ⟨rfl, rfl, rfl, rfl, trivial⟩, rfl⟩, rfl, rfl, eq_i64 hw2, rfl, rfl, rfl, rfl, rfl, trivial⟩, by show s.size - 255 * (j + 1) < s.size - 255 * j; omega⟩
               · have g1 : s.size - 255 * j < 255 := ge_f g1
                 obtain rfl : j = s.size / 255 := by omega
                 conv => whnf
                 rw [← hoj]
                 exact ⟨(), [0], ⟨rfl, ⟨rfl, rfl, trivial⟩, rfl⟩, rfl, rfl, eq_i64 (by omega), rfl, rfl, rfl, rfl, rfl, trivial⟩
             | cons o1 or =>
               conv => whnf
               refine ⟨fun g1 => ?_, fun g1 => ?_⟩
               · have g1 : 255 ≤ s.size - 255 * j := ge_t g1
                 rw [if_pos g1] at hw2
                 have hjn : j + 1 ≤ s.size / 255 := by omega
                 conv => whnf
                 refine ⟨rfl, [255], ⟨rfl, rfl, rfl⟩, by rw [List.length_append, List.length_singleton]; omega, by rw [List.length_append, List.length_singleton]; omega, ?_⟩
                 conv => whnf
                 exact ⟨⟨(j + 1, o1 :: (or ++ [255])), hjn, by rw [List.replicate_succ', ← List.append_assoc, ← hoj]; rfl⟩, ⟨[0, 3], ⟨rfl, ⟨rfl, rfl, rfl, rfl, trivial⟩, rfl⟩, rfl, rfl, eq_i64 hw2, rfl, rfl, rfl, rfl, rfl, trivial⟩, by show s.size - 255 * (j + 1) < s.size - 255 * j; omega⟩
               · have g1 : s.size - 255 * j < 255 := ge_f g1
                 obtain rfl : j = s.size / 255 := by omega
                 conv => whnf
                 rw [← hoj]
                 exact ⟨(), [0, 1], ⟨rfl, ⟨rfl, rfl, rfl, rfl, trivial⟩, rfl⟩, rfl, rfl, eq_i64 (by omega), rfl, rfl, rfl, rfl, rfl, trivial⟩
           · obtain ⟨o2, ho2⟩ : ∃ o2 : List Int, o2 = (o0 :: ol) ++ List.replicate (s.size / 255) 255 := ⟨_, rfl⟩
             rw [← ho2]
             have hw3 : IntKind.i64.wrap (((p.parts.length : Nat) : Int) - ((1 : Nat) : Int)) = ((p.parts.length - 1 : Nat) : Int) := by rw [IntKind.wrap_i64]; omega
             have h8 : IntKind.u8.wrap ((s.size % 255 : Nat) : Int) = ((s.size % 255 : Nat) : Int) := nwrap8 (by omega)
             have hlast : i + 1 = p.parts.length → p.more = true → S = o2 := by
               intro h1 h2
               rw [hS2, if_pos ⟨List.drop_of_length_le (by unfold Pg.pts; rw [List.length_map]; omega), h2⟩, List.drop_of_length_le (by unfold Pg.pts; rw [List.length_map]; omega), lenI_lc, hXl, ho2]
               show _ ++ (_ ++ [] ++ []) = _
               rw [List.append_nil, List.append_nil]
             have hgo : ¬ (i + 1 = p.parts.length ∧ p.more = true) → S = (o2 ++ [((s.size % 255 : Nat) : Int)]) ++ lenI (lace p.more (p.pts.drop (i + 1))) := by
               intro h1
               have hne : ¬ (p.pts.drop (i + 1) = [] ∧ p.more = true) := by
                 rintro ⟨h2, h3⟩
                 refine h1 ⟨?_, h3⟩
                 have := congrArg List.length h2
                 rw [List.length_drop, List.length_nil] at this
                 unfold Pg.pts at this
                 rw [List.length_map] at this
                 omega
               rw [hS2, if_neg hne, lenI_lc, lenI_lr, hXl, ho2]
               simp only [List.append_assoc]
             have hptl : i + 1 = p.parts.length → p.pts.getLast? = some (bytesOf s) := by
               intro h1
               rw [List.getLast?_eq_getElem?]
               unfold Pg.pts at hpt ⊢
               rw [List.length_map, show p.parts.length - 1 = i by omega]
               exact hpt
             have ho2l : o2.length ≤ S.length := by
               rw [ho2, hS2]
               simp only [List.length_append, lenI_lc, List.length_replicate, hXl]
               omega
             cases o2 with
             | nil =>
               conv => whnf
               refine Or.inl ?_
               conv => whnf
               rw [hw3]
               refine ⟨fun g1 => ?_, fun g1 => ?_⟩
               · have g1 : i + 1 = p.parts.length := by
                   have := beq_t g1
                   omega
                 conv => whnf
                 refine ⟨fun g2 => ?_, fun g2 => ?_⟩
                 · have g2 : p.more = true := g2
                   conv => whnf
                   refine Or.inl ?_
                   conv => whnf
                   refine ⟨fun g3 => ?_, fun g3 => ?_⟩
                   · have g3 : s.size % 255 ≠ 0 := bne_t (b := 0) g3
                     conv => whnf
                     exact Or.inr ⟨[], .t [.c (.val (.slice none 0 0)), .c (.val (.bool false))], [], ⟨rfl, trivial, rfl⟩, rfl, .inl ⟨⟨g2, _, hptl g1, fun ⟨n, hn⟩ => by rw [hXl] at hn; omega⟩, rfl, rfl⟩⟩
                   · have g3 : s.size % 255 = 0 := bne_f (b := 0) g3
                     conv => whnf
                     refine ⟨fun g4 => ?_, fun g4 => ?_⟩
                     · have g4 : s.size = 0 := by rw [strb_t g4]; rfl
                       conv => whnf
                       exact Or.inr ⟨[], .t [.c (.val (.slice none 0 0)), .c (.val (.bool false))], [], ⟨rfl, trivial, rfl⟩, rfl, .inl ⟨⟨g2, _, hptl g1, fun ⟨n, hn⟩ => by rw [hXl] at hn; omega⟩, rfl, rfl⟩⟩
                     · have g4 : s.size ≠ 0 := fun c => strb_f g4 (ByteArray.ext (Array.eq_empty_of_size_eq_zero c))
                       conv => whnf
                       rw [hlast g1 g2]
                       refine ⟨⟨?_⟩, [0], ⟨rfl, ⟨rfl, rfl, trivial⟩, rfl⟩, rfl, rfl, trivial⟩
                       rintro ⟨_, x, hx, hx2⟩
                       rw [hptl g1] at hx
                       cases hx
                       exact hx2 ⟨s.size / 255 - 1, by rw [hXl]; omega⟩
                 · have g2 : p.more = false := g2
                   have h1 : ¬ (i + 1 = p.parts.length ∧ p.more = true) := fun c => by rw [g2] at c; exact Bool.noConfusion c.2
                   conv => whnf
                   rw [h8]
                   conv => whnf
                   refine ⟨by omega, Int, encI .u8, [], [((s.size % 255 : Nat) : Int)], fun _ => rfl, ⟨rfl, rfl, rfl⟩, by simp only [List.length_cons, List.length_nil]; omega, by simp only [List.length_cons, List.length_nil]; omega, ?_⟩
                   conv => whnf
                   exact ⟨⟨[((s.size % 255 : Nat) : Int)], hgo h1, h1⟩, [0, 2], ⟨rfl, ⟨rfl, rfl, rfl, rfl, trivial⟩, rfl⟩, rfl, rfl, rfl, rfl, rfl, trivial⟩
               · have g1 : i + 1 ≠ p.parts.length := by
                   have := beq_f g1
                   omega
                 have h1 : ¬ (i + 1 = p.parts.length ∧ p.more = true) := fun c => g1 c.1
                 conv => whnf
                 rw [h8]
                 conv => whnf
                 refine ⟨by omega, Int, encI .u8, [], [((s.size % 255 : Nat) : Int)], fun _ => rfl, ⟨rfl, rfl, rfl⟩, by simp only [List.length_cons, List.length_nil]; omega, by simp only [List.length_cons, List.length_nil]; omega, ?_⟩
                 conv => whnf
                 exact ⟨⟨[((s.size % 255 : Nat) : Int)], hgo h1, h1⟩, [0, 2], ⟨rfl, ⟨rfl, rfl, rfl, rfl, trivial⟩, rfl⟩, rfl, rfl, rfl, rfl, rfl, trivial⟩
             | cons o1 or =>
               conv => whnf
               refine Or.inl ?_
               conv => whnf
               rw [hw3]
               refine ⟨fun g1 => ?_, fun g1 => ?_⟩
               · have g1 : i + 1 = p.parts.length := by
                   have := beq_t g1
                   omega
                 conv => whnf
                 refine ⟨fun g2 => ?_, fun g2 => ?_⟩
                 · have g2 : p.more = true := g2
                   conv => whnf
                   refine Or.inl ?_
                   conv => whnf
                   refine ⟨fun g3 => ?_, fun g3 => ?_⟩
                   · have g3 : s.size % 255 ≠ 0 := bne_t (b := 0) g3
                     conv => whnf
                     exact Or.inr ⟨[], .t [.c (.val (.slice none 0 0)), .c (.val (.bool false))], [], ⟨rfl, trivial, rfl⟩, rfl, .inl ⟨⟨g2, _, hptl g1, fun ⟨n, hn⟩ => by rw [hXl] at hn; omega⟩, rfl, rfl⟩⟩
                   · have g3 : s.size % 255 = 0 := bne_f (b := 0) g3
                     conv => whnf
                     refine ⟨fun g4 => ?_, fun g4 => ?_⟩
                     · have g4 : s.size = 0 := by rw [strb_t g4]; rfl
                       conv => whnf
                       exact Or.inr ⟨[], .t [.c (.val (.slice none 0 0)), .c (.val (.bool false))], [], ⟨rfl, trivial, rfl⟩, rfl, .inl ⟨⟨g2, _, hptl g1, fun ⟨n, hn⟩ => by rw [hXl] at hn; omega⟩, rfl, rfl⟩⟩
                     · have g4 : s.size ≠ 0 := fun c => strb_f g4 (ByteArray.ext (Array.eq_empty_of_size_eq_zero c))
                       conv => whnf
                       rw [hlast g1 g2]
                       refine ⟨⟨?_⟩, [0, 1], ⟨rfl, ⟨rfl, rfl, rfl, rfl, trivial⟩, rfl⟩, rfl, rfl, trivial⟩
                       rintro ⟨_, x, hx, hx2⟩
                       rw [hptl g1] at hx
                       cases hx
                       exact hx2 ⟨s.size / 255 - 1, by rw [hXl]; omega⟩
                 · have g2 : p.more = false := g2
                   have h1 : ¬ (i + 1 = p.parts.length ∧ p.more = true) := fun c => by rw [g2] at c; exact Bool.noConfusion c.2
                   conv => whnf
                   rw [h8]
                   conv => whnf
                   refine ⟨rfl, [((s.size % 255 : Nat) : Int)], ⟨rfl, rfl, rfl⟩, by rw [List.length_append, List.length_singleton]; omega, by rw [List.length_append, List.length_singleton]; omega, ?_⟩
                   conv => whnf
                   exact ⟨⟨o1 :: (or ++ [((s.size % 255 : Nat) : Int)]), hgo h1, h1⟩, [0, 3], ⟨rfl, ⟨rfl, rfl, rfl, rfl, trivial⟩, rfl⟩, rfl, rfl, rfl, rfl, rfl, trivial⟩
               · have g1 : i + 1 ≠ p.parts.length := by
                   have := beq_f g1
                   omega
                 have h1 : ¬ (i + 1 = p.parts.length ∧ p.more = true) := fun c => g1 c.1
                 conv => whnf
                 rw [h8]
                 conv => whnf
                 refine ⟨rfl, [((s.size % 255 : Nat) : Int)], ⟨rfl, rfl, rfl⟩, by rw [List.length_append, List.length_singleton]; omega, by rw [List.length_append, List.length_singleton]; omega, ?_⟩
                 conv => whnf
                 exact ⟨⟨o1 :: (or ++ [((s.size % 255 : Nat) : Int)]), hgo h1, h1⟩, [0, 3], ⟨rfl, ⟨rfl, rfl, rfl, rfl, trivial⟩, rfl⟩, rfl, rfl, rfl, rfl, rfl, trivial⟩

         · cases o' with
           | nil =>
             conv => whnf
             exact ⟨⟨(i + 1, []), g, ho', fun a b => absurd ⟨a, b⟩ hne'⟩, ⟨[0], ⟨rfl, ⟨rfl, rfl, trivial⟩, rfl⟩, rfl, rfl, rfl, rfl, eq_i64 (by rw [nadd, nwrapi (by omega)]), trivial⟩, by show p.parts.length - (i + 1) < p.parts.length - i; omega⟩
           | cons o1 or =>
             conv => whnf
             exact ⟨⟨(i + 1, o1 :: or), g, ho', fun a b => absurd ⟨a, b⟩ hne'⟩, ⟨[0, 1], ⟨rfl, ⟨rfl, rfl, rfl, rfl, trivial⟩, rfl⟩, rfl, rfl, rfl, rfl, eq_i64 (by rw [nadd, nwrapi (by omega)]), trivial⟩, by show p.parts.length - (i + 1) < p.parts.length - i; omega⟩
       · have g : p.parts.length ≤ i := lt_f g
         have hdn : p.pts.drop i = [] := List.drop_of_length_le (by unfold Pg.pts; rw [List.length_map]; exact g)
         rw [hdn] at ho
         have ho : S = (o0 :: ol) := by rw [ho]; exact List.append_nil _
         conv => whnf
         rw [ho]
         refine ⟨⟨?_⟩, [0, 1], ⟨rfl, ⟨rfl, rfl, rfl, rfl, trivial⟩, rfl⟩, rfl, rfl, trivial⟩
         rintro ⟨hm, x, hx, hx2⟩
         have hnil := hend (by omega) hm
         unfold Pg.pts at hx
         rw [hnil] at hx
         cases hx
 · rcases hv with ⟨rfl, hp⟩ | ⟨a, c, rfl, hc, hb⟩
   · cases S with
     | nil =>
       conv => whnf
       refine ⟨fun g => ?_, fun g => ?_⟩
       · have g : 0 ≤ 255 := le_t (a := 0) g
         have hle : p.segs.length ≤ 255 := by rw [← hSl]; exact g
         conv => whnf
         refine ⟨fun g2 => ?_, fun g2 => ?_⟩
         · have hm : p.more = false := by simpa using g2
           conv => whnf
           exact Or.inr ⟨[], .t [.c (szV 0 []), .c (.val (.bool true))], szH [], ⟨rfl, trivial, rfl⟩, rfl, .inr ⟨hnb, true, ⟨fun _ => ⟨hle, fun h => by rw [hm] at h; exact Bool.noConfusion h⟩, fun _ => rfl⟩, rfl, rfl⟩⟩
         · have hm : p.more = true := by simpa using g2
           conv => whnf
           have hb' : (decide (((0 : Nat) : Int) > ((0 : Nat) : Int))) = true ↔ (p.segs.length ≤ 255 ∧ (p.more = true → p.parts ≠ [])) := by
             constructor
             · intro h
               exact absurd h (by decide)
             · intro h
               exact absurd hp (h.2 hm)
           exact Or.inr ⟨[], .t [.c (szV 0 []), .c (.val (.bool (decide (((0 : Nat) : Int) > ((0 : Nat) : Int)))))], szH [], ⟨rfl, trivial, rfl⟩, rfl, .inr ⟨hnb, (decide (((0 : Nat) : Int) > ((0 : Nat) : Int))), hb', rfl, rfl⟩⟩
       · have g : ¬ 0 ≤ 255 := Nat.not_le.2 (le_f (a := 0) g)
         conv => whnf
         exact Or.inr ⟨[], .t [.c (szV 0 []), .c (.val (.bool false))], szH [], ⟨rfl, trivial, rfl⟩, rfl, .inr ⟨hnb, false, ⟨fun h => Bool.noConfusion h, fun h => absurd (by rw [← hSl] at h; exact h.1) g⟩, rfl, rfl⟩⟩
     | cons s0 sr =>
       conv => whnf
       refine ⟨fun g => ?_, fun g => ?_⟩
       · have g : (s0 :: sr).length ≤ 255 := le_t (a := (s0 :: sr).length) g
         have hle : p.segs.length ≤ 255 := by rw [← hSl]; exact g
         conv => whnf
         refine ⟨fun g2 => ?_, fun g2 => ?_⟩
         · have hm : p.more = false := by simpa using g2
           conv => whnf
           exact Or.inr ⟨[1], .t [.c (szV 0 (s0 :: sr)), .c (.val (.bool true))], szH (s0 :: sr), ⟨rfl, ⟨rfl, rfl, trivial⟩, rfl⟩, rfl, .inr ⟨hnb, true, ⟨fun _ => ⟨hle, fun h => by rw [hm] at h; exact Bool.noConfusion h⟩, fun _ => rfl⟩, rfl, rfl⟩⟩
         · have hm : p.more = true := by simpa using g2
           conv => whnf
           have hb' : (decide (((0 : Nat) : Int) > ((0 : Nat) : Int))) = true ↔ (p.segs.length ≤ 255 ∧ (p.more = true → p.parts ≠ [])) := by
             constructor
             · intro h
               exact absurd h (by decide)
             · intro h
               exact absurd hp (h.2 hm)
           exact Or.inr ⟨[1], .t [.c (szV 0 (s0 :: sr)), .c (.val (.bool (decide (((0 : Nat) : Int) > ((0 : Nat) : Int)))))], szH (s0 :: sr), ⟨rfl, ⟨rfl, rfl, trivial⟩, rfl⟩, rfl, .inr ⟨hnb, (decide (((0 : Nat) : Int) > ((0 : Nat) : Int))), hb', rfl, rfl⟩⟩
       · have g : ¬ (s0 :: sr).length ≤ 255 := Nat.not_le.2 (le_f (a := (s0 :: sr).length) g)
         conv => whnf
         exact Or.inr ⟨[1], .t [.c (szV 0 (s0 :: sr)), .c (.val (.bool false))], szH (s0 :: sr), ⟨rfl, ⟨rfl, rfl, trivial⟩, rfl⟩, rfl, .inr ⟨hnb, false, ⟨fun h => Bool.noConfusion h, fun h => absurd (by rw [← hSl] at h; exact h.1) g⟩, rfl, rfl⟩⟩
   · cases S with
     | nil =>
       conv => whnf
       refine ⟨fun g => ?_, fun g => ?_⟩
       · have g : 0 ≤ 255 := le_t (a := 0) g
         have hle : p.segs.length ≤ 255 := by rw [← hSl]; exact g
         conv => whnf
         refine ⟨fun g2 => ?_, fun g2 => ?_⟩
         · have hm : p.more = false := by simpa using g2
           conv => whnf
           exact Or.inr ⟨[], .t [.c (szV 0 []), .c (.val (.bool true))], szH [], ⟨rfl, trivial, rfl⟩, rfl, .inr ⟨hnb, true, ⟨fun _ => ⟨hle, fun h => by rw [hm] at h; exact Bool.noConfusion h⟩, fun _ => rfl⟩, rfl, rfl⟩⟩
         · have hm : p.more = true := by simpa using g2
           conv => whnf
           have hb' : (decide (((p.parts.length : Nat) : Int) > ((0 : Nat) : Int))) = true ↔ (p.segs.length ≤ 255 ∧ (p.more = true → p.parts ≠ [])) := by
             constructor
             · intro h
               have := of_decide_eq_true h
               exact ⟨hle, fun _ hn => by rw [hn] at this; exact absurd this (by decide)⟩
             · intro h
               have := List.length_pos_iff.2 (h.2 hm)
               exact decide_eq_true (by omega)
           exact Or.inr ⟨[], .t [.c (szV 0 []), .c (.val (.bool (decide (((p.parts.length : Nat) : Int) > ((0 : Nat) : Int)))))], szH [], ⟨rfl, trivial, rfl⟩, rfl, .inr ⟨hnb, (decide (((p.parts.length : Nat) : Int) > ((0 : Nat) : Int))), hb', rfl, rfl⟩⟩
       · have g : ¬ 0 ≤ 255 := Nat.not_le.2 (le_f (a := 0) g)
         conv => whnf
         exact Or.inr ⟨[], .t [.c (szV 0 []), .c (.val (.bool false))], szH [], ⟨rfl, trivial, rfl⟩, rfl, .inr ⟨hnb, false, ⟨fun h => Bool.noConfusion h, fun h => absurd (by rw [← hSl] at h; exact h.1) g⟩, rfl, rfl⟩⟩
     | cons s0 sr =>
       conv => whnf
       refine ⟨fun g => ?_, fun g => ?_⟩
       · have g : (s0 :: sr).length ≤ 255 := le_t (a := (s0 :: sr).length) g
         have hle : p.segs.length ≤ 255 := by rw [← hSl]; exact g
         conv => whnf
         refine ⟨fun g2 => ?_, fun g2 => ?_⟩
         · have hm : p.more = false := by simpa using g2
           conv => whnf
           exact Or.inr ⟨[1], .t [.c (szV 0 (s0 :: sr)), .c (.val (.bool true))], szH (s0 :: sr), ⟨rfl, ⟨rfl, rfl, trivial⟩, rfl⟩, rfl, .inr ⟨hnb, true, ⟨fun _ => ⟨hle, fun h => by rw [hm] at h; exact Bool.noConfusion h⟩, fun _ => rfl⟩, rfl, rfl⟩⟩
         · have hm : p.more = true := by simpa using g2
           conv => whnf
           have hb' : (decide (((p.parts.length : Nat) : Int) > ((0 : Nat) : Int))) = true ↔ (p.segs.length ≤ 255 ∧ (p.more = true → p.parts ≠ [])) := by
             constructor
             · intro h
               have := of_decide_eq_true h
               exact ⟨hle, fun _ hn => by rw [hn] at this; exact absurd this (by decide)⟩
             · intro h
               have := List.length_pos_iff.2 (h.2 hm)
               exact decide_eq_true (by omega)
           exact Or.inr ⟨[1], .t [.c (szV 0 (s0 :: sr)), .c (.val (.bool (decide (((p.parts.length : Nat) : Int) > ((0 : Nat) : Int)))))], szH (s0 :: sr), ⟨rfl, ⟨rfl, rfl, trivial⟩, rfl⟩, rfl, .inr ⟨hnb, (decide (((p.parts.length : Nat) : Int) > ((0 : Nat) : Int))), hb', rfl, rfl⟩⟩
       · have g : ¬ (s0 :: sr).length ≤ 255 := Nat.not_le.2 (le_f (a := (s0 :: sr).length) g)
         conv => whnf
         exact Or.inr ⟨[1], .t [.c (szV 0 (s0 :: sr)), .c (.val (.bool false))], szH (s0 :: sr), ⟨rfl, ⟨rfl, rfl, trivial⟩, rfl⟩, rfl, .inr ⟨hnb, false, ⟨fun h => Bool.noConfusion h, fun h => absurd (by rw [← hSl] at h; exact h.1) g⟩, rfl, rfl⟩⟩
end Go.Proofs.YtokkphocaloelaaGreatDoor

end
