/- Joined: PgP, IrU, PuM, RwLaid, RwPages, PuN, PuO, PgQ, PgR, PgS, RmC, PgT, PgU, PgV. -/
import Derived.Test.YtokkphocaloelaaGreatDoorOE
section
namespace Go.Proofs.YtokkphocaloelaaGreatDoor
open Go Go.Vc
set_option maxRecDepth 100000
set_option maxHeartbeats 8000000

def mpD (b : Nat) (X : List Int) (m : Bool) : Blk := bif m then mpB b X else .dead
def mdD (X : List Int) (m : Bool) : Blk := bif m then rowB (X.drop 21) else .dead
theorem mpD_ren {σ : List Nat} {b b' : Nat} (h : σ[b]? = some b') (X : List Int) (m : Bool) : (mpD b X m).ren σ = mpD b' X m := by
 cases m
 · rfl
 · show Blk.cells _ [_, _, (CV.vec b _).ren σ, _] = _
   simp only [CV.ren, h]
   rfl
theorem mdD_ren {σ : List Nat} (X : List Int) (m : Bool) : (mdD X m).ren σ = mdD X m := by cases m <;> rfl
def opG (m : Bool) (L : List Int) (s : Sr) (q : Qs) (h X : List Int) : List Blk := [rdB 1 3 4 5 m, srcB 2 L s, datB L, tabB tabL, psB 6 7 q none false (mkLi h 0) (mkHl h false), mpD 9 X m, .dead, .dead, ohB X, mdD X m]
theorem opH_eq (L : List Int) (s : Sr) (q : Qs) (h X : List Int) : ∃ m, opH L s q h X = opG m L s q h X := by
 by_cases h18 : bt X 18 = 0
 · exact ⟨false, by unfold opH; rw [if_pos h18]; rfl⟩
 · exact ⟨true, by unfold opH; rw [if_neg h18]; rfl⟩
theorem apB {α : Type} {l : List α} {n k : Nat} (x : α) (h : l.length = n + 1) (hn : n ≤ 1099511627776) (hk : k ≤ 24) : (l ++ [x]).length * k ≤ 140737488355328 := by
 rw [List.length_append, h, List.length_singleton]
 have : (n + 1 + 1) * k ≤ (n + 1 + 1) * 24 := Nat.mul_le_mul_left _ hk
 omega
theorem apL {α : Type} {l : List α} {n : Nat} (x : α) (h : l.length = n + 1) (hn : n ≤ 1099511627776) : (l ++ [x]).length ≤ 140737488355328 := by
 rw [List.length_append, h, List.length_singleton]
 omega
def opE : Env := [(2, .o (.c (.ptr 0 0))), (3, .o (.c (.ptr 1 0))), (4, .o (.c (.ptr 2 0))), (5, .o (.c (.ptr 3 0)))]
def opC (i : Nat) (yy : List (List ByteArray × Nat)) : List Blk := [.cells 43 [bhV i yy], .cells 32 [bhV (i + 1) yy], .cells 3 [.val (.int .i64 ((0 : Nat) : Int))]]
def opS (m : Bool) (L : List Int) (s : Sr) (o c li : Nat) (hl : Bool) : List Blk := [rdB 4 6 7 8 m, srcB 5 L s, datB L, tabB tabL, psB 9 10 (.sli o 0 c) none false li hl, .dead, .dead, .dead]
def opOut (r : AV) (H : List Blk) (yy : List (List ByteArray × Nat)) (k : Nat) : Prop := r = .t [.c (bhV 0 yy), .c (bhV 1 yy), .c (.val (.int .i64 ((k : Nat) : Int)))] ∧ H = bhO 2 yy
theorem iOggPagesW {w0 : World} {t : TypeId} {v : Nat → Value} (he : Errs w0 t v) {b : ByteArray} (hs : b.size ≤ 1099511627776)
   (ho : ∀ g rest, pageI (bytesOf b) = some (g, rest) → ∃ k, Opens (bytesOf b) g rest k) {g0 : PgI} {L0 : List Int} (hp : pageI (bytesOf b) = some (g0, L0)) (hok : okX g0.segs.flatten) :
   CallsA Tryz.prog w0 17 [.c (.val (.string b))] [] fun r H => ∃ k : Nat, k ≤ 1 ∧ ((allI L0).2 = [] → k = 0) ∧ opOut r H (allI L0).1 k := by
 have hLb : Byt (bytesOf b) := byt_bytes b
 have hL : (bytesOf b).length ≤ 1099511627776 := by rw [bytesOf_len]; exact hs
 have hop := iOpenW he hs ho
 rw [hp] at hop
 have hL0b : Byt L0 := ((pageI_facts hp).2 hLb).1
 have hL0l : L0.length + 27 ≤ (bytesOf b).length := (pageI_facts hp).1
 refine callsA_of_evD c17_ ?_
 conv => whnf
 refine CallsA.liftE (H0 := []) [] rfl trivial rfl hop ?_
 rintro _ _ (⟨h1, _⟩ | ⟨h1, s0, o, c, hs0, hr0, rfl, rfl⟩)
 · exact absurd hok h1
 obtain ⟨m, hm⟩ := opH_eq (bytesOf b) s0 (.sli o 0 c) g0.hdr g0.segs.flatten
 simp only [hm]
 generalize bytesOf b = L at hLb hL hs0 hr0 hL0l
 generalize g0.segs.flatten = X at hok h1
 obtain ⟨li0, hli0⟩ : ∃ li0, li0 = mkLi g0.hdr 0 := ⟨_, rfl⟩
 obtain ⟨hl0, hhl0⟩ : ∃ hl0, hl0 = mkHl g0.hdr false := ⟨_, rfl⟩
 unfold opG
 rw [← hli0, ← hhl0]
 refine ⟨.t [.c (.ptr 3 0), .c (.ptr 11 0), .c (.val .nilIface)], opC 0 [] ++ [rdB 4 6 7 8 m, srcB 5 L s0, datB L, tabB tabL, psB 9 10 (.sli o 0 c) none false li0 hl0, mpD 12 X m, .dead, .dead, ohB X, mdD X m], rfl, ⟨rfl, rfl, rfl, rdB_ren (by rfl) (by rfl) (by rfl) (by rfl) m, srcB_ren (by rfl) _, rfl, rfl, rfl, mpD_ren (by rfl) _ _, rfl, rfl, rfl, mdD_ren _ _, trivial⟩, ?_⟩
 conv => whnf
 refine Or.inl ?_
 conv => whnf
 refine ⟨fun g => zF g, fun _ => ?_⟩
 conv => whnf
 refine ⟨{x : Sr × (Nat × Bool) × List (List ByteArray × Nat) // x.1.ok L ∧ RdI L0 x.2.2 (x.1.rem L)}, fun ⟨⟨s, ⟨li, hl⟩, yy⟩, _⟩ => ⟨opE, opC 11 yy ++ opS m L s o c li hl ++ bhO 13 yy⟩, fun x => (x.1.1.rem L).length, ⟨⟨(s0, (li0, hl0), []), hs0, hr0 ▸ RdI.nil⟩, [0, 1, 2, 3, 4, 5, 6, 7, 8, 9, 10], ⟨rfl, ⟨rfl, rfl, rfl, rfl, rfl, rfl, rdE (by rfl) (by rfl) (by rfl) (by rfl) m, rfl, srcE (by rfl) _, rfl, rfl, rfl, rfl, rfl, rfl, rfl, show 8 < 13 by decide, show 9 < 13 by decide, show 10 < 13 by decide, trivial⟩, rfl⟩, rfl, rfl, rfl, rfl, trivial⟩, fun ⟨⟨s, ⟨li, hl⟩, yy⟩, hok1, hrd⟩ => ?_⟩
 simp only at hok1 hrd
 have hrb : Byt (s.rem L) := hrd.byt hL0b
 have hnp := nextPageW he m hok1 hLb hL hrb (.sli o 0 c) none false li hl
 have hyl := hrd.len
 obtain ⟨G, hG⟩ : ∃ G, G = pageI (s.rem L) := ⟨_, rfl⟩
 rw [← hG] at hnp
 cases yy with
 | nil =>
   conv => whnf
   refine CallsA.liftKE (H0 := [rdB 1 3 4 5 m, srcB 2 L s, datB L, tabB tabL, psB 6 7 (.sli o 0 c) none false li hl, .dead, .dead, .dead]) [3, 4, 5, 6, 7, 8, 9, 10] [.dead, .dead, .dead, rdB 4 6 7 8 m, srcB 5 L s, datB L, tabB tabL, psB 9 10 (.sli o 0 c) none false li hl, .dead, .dead, .dead] ⟨rfl, rfl, rfl, rfl, rfl, trivial⟩ rfl ⟨rdE (by rfl) (by rfl) (by rfl) (by rfl) m, rfl, srcE (by rfl) _, rfl, rfl, rfl, rfl, rfl, rfl, rfl, show 8 < 11 by decide, show 9 < 11 by decide, show 10 < 11 by decide, trivial⟩ rfl hnp ?_
   intro r H hrH
   cases G with
   | none =>
     obtain ⟨k, hk, hk0, rfl, rfl⟩ := hrH
     have hkk : k < 12 ∧ k ≠ 3 ∧ k ≠ 6 := by omega
     have hfin := hrd.fin hG.symm
     refine ⟨.t [.c (.val (.slice none 0 0)), .c (.val (.pointer none)), .c (.val (.iface t (v k)))], [.cells 43 [bhV 11 []], .cells 32 [bhV 12 []], .cells 3 [.val (.int .i64 ((0 : Nat) : Int))], .dead, .dead, .dead, .dead, .dead, .dead, .dead, .dead], rfl, ⟨rfl, rfl, rfl, rfl, rfl, rfl, rfl, rfl, rfl, rfl, rfl, trivial⟩, ?_⟩
     conv => whnf
     refine Or.inl ?_
     conv => whnf
     refine ⟨.iface t (v 0), ?_⟩
     conv => whnf
     refine ⟨he.get 0 (by decide) (by decide) (by decide), ?_⟩
     conv => whnf
     refine ⟨rfl, ?_⟩
     conv => whnf
     refine ⟨_, he.eq0 k hkk.1 hkk.2.1 hkk.2.2, ?_⟩
     conv => whnf
     refine ⟨fun g => ?_, fun g => ?_⟩
     · have g : k = 0 := of_decide_eq_true g
       conv => whnf
       refine ⟨⟨⟨rfl, rfl⟩, trivial⟩, ?_⟩
       conv => whnf
       refine ⟨trivial, ?_⟩
       conv => whnf
       refine ⟨trivial, ?_⟩
       conv => whnf
       exact Or.inr ⟨[], .t [.c (bhV 0 []), .c (bhV 1 []), .c (.val (.int .i64 ((0 : Nat) : Int)))], bhO 2 [], ⟨rfl, trivial, rfl⟩, rfl, 0, by decide, fun _ => rfl, by rw [hfin]; exact ⟨rfl, rfl⟩⟩
     · have g : k ≠ 0 := of_decide_eq_false g
       conv => whnf
       refine Or.inl ?_
       conv => whnf
       refine ⟨fun _ => ?_, fun g => zT g⟩
       conv => whnf
       refine ⟨⟨⟨rfl, rfl⟩, trivial⟩, ?_⟩
       conv => whnf
       refine ⟨trivial, ?_⟩
       conv => whnf
       refine ⟨trivial, ?_⟩
       conv => whnf
       exact Or.inr ⟨[], .t [.c (bhV 0 []), .c (bhV 1 []), .c (.val (.int .i64 ((1 : Nat) : Int)))], bhO 2 [], ⟨rfl, trivial, rfl⟩, rfl, 1, by decide, fun hx => absurd (hk0 (by rw [hfin] at hx; exact hx)) g, by rw [hfin]; exact ⟨rfl, rfl⟩⟩
   | some x =>
     obtain ⟨g, rest⟩ := x
     obtain ⟨s', hs', hr', rfl, rfl⟩ := hrH
     have hgf := (pageI_facts hG.symm).2 hrb
     have hrd2 := hrd.snoc hG.symm
     have hrl := (pageI_facts hG.symm).1
     obtain ⟨h, sizes, segs⟩ := g
     refine ⟨.t [.c (.vec 12 segs.length), .c (.ptr 11 0), .c (.val .nilIface)], [.cells 43 [bhV 11 []], .cells 32 [bhV 12 []], .cells 3 [.val (.int .i64 ((0 : Nat) : Int))], rdB 4 6 7 8 m, srcB 5 L s', datB L, tabB tabL, psB 9 10 (.sli o 0 c) none false (mkLi h li) (mkHl h hl), .dead, .dead, .dead, hpB h, outB 13 segs, segB segs], rfl, ⟨rfl, rfl, rfl, rdB_ren (by rfl) (by rfl) (by rfl) (by rfl) m, srcB_ren (by rfl) _, rfl, rfl, rfl, rfl, rfl, rfl, rfl, rfl, rfl, trivial⟩, ?_⟩
     conv => whnf
     refine Or.inl ?_
     conv => whnf
     refine ⟨.iface t (v 0), ?_⟩
     conv => whnf
     refine ⟨he.get 0 (by decide) (by decide) (by decide), ?_⟩
     conv => whnf
     refine ⟨rfl, ?_⟩
     conv => whnf
     refine ⟨he.nil0, ?_⟩
     conv => whnf
     refine ⟨fun g => zF g, fun _ => ?_⟩
     conv => whnf
     refine Or.inl ?_
     conv => whnf
     refine ⟨fun g => zF g, fun _ => ?_⟩
     conv => whnf
     obtain ⟨z, hz⟩ : ∃ z, z = strsL segs := ⟨_, rfl⟩
     have hzl : z.length = segs.length := by rw [hz]; exact List.length_map ..
     have hsl : segs.length ≤ 256 := hgf.2.1
     refine Or.inr ⟨Unit, fun _ => ⟨(9, .o (.c (.ptr 11 0))) :: (11, .o (.c (lsV 14 z))) :: opE, [.cells 43 [bhV 11 []], .cells 32 [bhV 12 []], .cells 3 [.val (.int .i64 ((0 : Nat) : Int))], rdB 4 6 7 8 m, srcB 5 L s', datB L, tabB tabL, psB 9 10 (.sli o 0 c) none false (mkLi h li) (mkHl h hl), .dead, .dead, .dead, hpB h, outB 13 segs, segB segs] ++ lsH z⟩, ?_, fun _ => ?_⟩
     · conv => whnf
       refine ⟨{x : Nat × List ByteArray // x.1 ≤ segs.length ∧ x.2 = strsL (segs.take x.1)}, fun ⟨⟨i, zz⟩, _⟩ => ⟨(38, .o (.c (.vec 12 segs.length))) :: (39, .o (.c (.val (.int .i64 (segs.length : Nat))))) :: (40, .o (.c (.val (.int .i64 (i : Nat))))) :: (9, .o (.c (.ptr 11 0))) :: (11, .o (.c (lsV 14 zz))) :: opE, [.cells 43 [bhV 11 []], .cells 32 [bhV 12 []], .cells 3 [.val (.int .i64 ((0 : Nat) : Int))], rdB 4 6 7 8 m, srcB 5 L s', datB L, tabB tabL, psB 9 10 (.sli o 0 c) none false (mkLi h li) (mkHl h hl), .dead, .dead, .dead, hpB h, outB 13 segs, segB segs] ++ lsH zz⟩, fun x => segs.length - x.1.1, ⟨⟨(0, []), Nat.zero_le _, rfl⟩, [0, 1, 2, 3, 4, 5, 6, 7, 8, 9, 10, 11, 12, 13], ⟨rfl, ⟨rfl, rfl, rfl, rfl, rfl, rfl, rdE (by rfl) (by rfl) (by rfl) (by rfl) m, rfl, srcE (by rfl) _, rfl, rfl, rfl, rfl, rfl, rfl, rfl, show 8 < 14 by decide, show 9 < 14 by decide, show 10 < 14 by decide, rfl, rfl, rfl, rfl, rfl, rfl, trivial⟩, rfl⟩, rfl, rfl, rfl, rfl, rfl, rfl, rfl, rfl, rfl, trivial⟩, fun ⟨⟨i, zz⟩, hi, hzz⟩ => ?_⟩
       simp only at hi hzz
       have hzzl : zz.length = i := by rw [hzz]; unfold strsL; rw [List.length_map, List.length_take]; omega
       cases zz with
       | nil =>
         conv => whnf
         refine ⟨fun g => ?_, fun g => ?_⟩
         · have g : i < segs.length := lt_t g
           obtain ⟨x, hx⟩ : ∃ x, segs[i]? = some x := ⟨_, List.getElem?_eq_getElem g⟩
           have hrow : (turns (segs.map List.length))[i]? = some (i, x.length) := by rw [turns_get, List.getElem?_map, hx]; rfl
           conv => whnf
           refine ⟨⟨Int.natCast_nonneg i, Int.ofNat_lt.2 g⟩, ?_⟩
           conv => whnf
           refine ⟨(i, x.length), hrow, ?_⟩
           conv => whnf
           refine ⟨trivial, x, ?_, ?_⟩
           · exact ⟨rfl, x, hx, Nat.le_refl _, rfl, by show _ = flat (encI .u8) [] (x.take x.length); rw [List.take_length]⟩
           conv => whnf
           refine ⟨by decide, ByteArray, encStr, [], [strOf x], fun _ => rfl, ⟨rfl, rfl, rfl⟩, by simp only [List.length_cons, List.length_nil]; omega, by simp only [List.length_cons, List.length_nil]; omega, ?_⟩
           conv => whnf
           refine ⟨⟨(i + 1, [strOf x]), g, ?_⟩, ⟨[0, 1, 2, 3, 4, 5, 6, 7, 8, 9, 10, 11, 12, 13, 15], ⟨rfl, ⟨rfl, rfl, rfl, rfl, rfl, rfl, rdE (by rfl) (by rfl) (by rfl) (by rfl) m, rfl, srcE (by rfl) _, rfl, rfl, rfl, rfl, rfl, rfl, rfl, show 8 < 16 by decide, show 9 < 16 by decide, show 10 < 16 by decide, rfl, rfl, rfl, rfl, rfl, rfl, rfl, rfl, trivial⟩, rfl⟩, rfl, rfl, eq_i64 (by rw [nadd, nwrapi (by omega)]), rfl, rfl, rfl, rfl, rfl, rfl, trivial⟩, by show segs.length - (i + 1) < segs.length - i; omega⟩
           show [strOf x] = strsL (segs.take (i + 1))
           unfold strsL
           rw [List.take_add_one, hx, List.map_append]
           show _ = strsL (segs.take i) ++ [strOf x]
           rw [← hzz]
           rfl
         · have g : segs.length ≤ i := lt_f g
           rw [List.take_of_length_le g, ← hz] at hzz
           rw [← hzz]
           conv => whnf
           exact ⟨(), [0, 1, 2, 3, 4, 5, 6, 7, 8, 9, 10, 11, 12, 13], ⟨rfl, ⟨rfl, rfl, rfl, rfl, rfl, rfl, rdE (by rfl) (by rfl) (by rfl) (by rfl) m, rfl, srcE (by rfl) _, rfl, rfl, rfl, rfl, rfl, rfl, rfl, show 8 < 14 by decide, show 9 < 14 by decide, show 10 < 14 by decide, rfl, rfl, rfl, rfl, rfl, rfl, trivial⟩, rfl⟩, rfl, rfl, rfl, rfl, rfl, rfl, trivial⟩
       | cons z0 zr =>
         have hzl2 : (z0 :: zr).length = zr.length + 1 := rfl
         conv => whnf
         refine ⟨fun g => ?_, fun g => ?_⟩
         · have g : i < segs.length := lt_t g
           obtain ⟨x, hx⟩ : ∃ x, segs[i]? = some x := ⟨_, List.getElem?_eq_getElem g⟩
           have hrow : (turns (segs.map List.length))[i]? = some (i, x.length) := by rw [turns_get, List.getElem?_map, hx]; rfl
           conv => whnf
           refine ⟨⟨Int.natCast_nonneg i, Int.ofNat_lt.2 g⟩, ?_⟩
           conv => whnf
           refine ⟨(i, x.length), hrow, ?_⟩
           conv => whnf
           refine ⟨trivial, x, ?_, ?_⟩
           · exact ⟨rfl, x, hx, Nat.le_refl _, rfl, by show _ = flat (encI .u8) [] (x.take x.length); rw [List.take_length]⟩
           conv => whnf
           refine ⟨rfl, [strOf x], ⟨rfl, rfl, rfl⟩, by rw [List.length_append, List.length_singleton]; omega, by rw [List.length_append, List.length_singleton]; omega, ?_⟩
           conv => whnf
           refine ⟨⟨(i + 1, z0 :: (zr ++ [strOf x])), g, ?_⟩, ⟨[0, 1, 2, 3, 4, 5, 6, 7, 8, 9, 10, 11, 12, 13, 16], ⟨rfl, ⟨rfl, rfl, rfl, rfl, rfl, rfl, rdE (by rfl) (by rfl) (by rfl) (by rfl) m, rfl, srcE (by rfl) _, rfl, rfl, rfl, rfl, rfl, rfl, rfl, show 8 < 17 by decide, show 9 < 17 by decide, show 10 < 17 by decide, rfl, rfl, rfl, rfl, rfl, rfl, rfl, rfl, trivial⟩, rfl⟩, rfl, rfl, eq_i64 (by rw [nadd, nwrapi (by omega)]), rfl, rfl, rfl, rfl, rfl, rfl, trivial⟩, by show segs.length - (i + 1) < segs.length - i; omega⟩
           show z0 :: (zr ++ [strOf x]) = strsL (segs.take (i + 1))
           unfold strsL
           rw [List.take_add_one, hx, List.map_append]
           show _ = strsL (segs.take i) ++ [strOf x]
           rw [← hzz]
           rfl
         · have g : segs.length ≤ i := lt_f g
           rw [List.take_of_length_le g, ← hz] at hzz
           rw [← hzz]
           conv => whnf
           exact ⟨(), [0, 1, 2, 3, 4, 5, 6, 7, 8, 9, 10, 11, 12, 13, 14], ⟨rfl, ⟨rfl, rfl, rfl, rfl, rfl, rfl, rdE (by rfl) (by rfl) (by rfl) (by rfl) m, rfl, srcE (by rfl) _, rfl, rfl, rfl, rfl, rfl, rfl, rfl, show 8 < 15 by decide, show 9 < 15 by decide, show 10 < 15 by decide, rfl, rfl, rfl, rfl, rfl, rfl, rfl, rfl, trivial⟩, rfl⟩, rfl, rfl, rfl, rfl, rfl, rfl, trivial⟩
     · have hle : 27 * 0 + 27 ≤ 1099511627776 := by omega
       cases z with
       | nil =>
         conv => whnf
         refine ⟨_, Ghost.fam0 w0 _ 9 encStr 1 (by decide) (fun _ => rfl), ?_⟩
         conv => whnf
         refine ⟨by decide, Option (Nat × Nat), encL, [15], [none], encL_len [15], ⟨rfl, rfl, rfl⟩, by simp only [List.length_cons, List.length_nil]; omega, by simp only [List.length_cons, List.length_nil]; omega, ?_⟩
         conv => whnf
         refine ⟨⟨⟨rfl, rfl⟩, trivial⟩, ?_⟩
         conv => whnf
         refine ⟨by decide, Int, encI .u64, [], [((le ((h.drop 6).take 8) : Nat) : Int)], fun _ => rfl, ⟨rfl, rfl, rfl⟩, by simp only [List.length_cons, List.length_nil]; omega, by simp only [List.length_cons, List.length_nil]; omega, ?_⟩
         conv => whnf
         refine ⟨trivial, ?_⟩
         conv => whnf
         refine ⟨trivial, ?_⟩
         conv => whnf
         refine ⟨⟨(s', (mkLi h li, mkHl h hl), [([], le ((h.drop 6).take 8))]), hs', ?_⟩, ⟨[0, 1, 2, 3, 4, 5, 6, 7, 8, 9, 10, 16, 18, 15], ⟨rfl, ⟨rfl, rfl, rfl, rfl, rfl, rfl, rdE (by rfl) (by rfl) (by rfl) (by rfl) m, rfl, srcE (by rfl) _, rfl, rfl, rfl, rfl, rfl, rfl, rfl, show 8 < 19 by decide, show 9 < 19 by decide, show 10 < 19 by decide, rfl, rfl, rfl, rfl, rfl, rfl, trivial⟩, rfl⟩, rfl, rfl, rfl, rfl, trivial⟩, ?_⟩
         · have h9 := hrd2
           unfold pgEl at h9
           simp only at h9
           rw [← hz] at h9
           exact hr'.symm ▸ h9
         · show (s'.rem L).length < (s.rem L).length
           rw [hr']
           omega
       | cons z0 zr =>
         conv => whnf
         refine ⟨[.cells 43 [bhV 11 []], .cells 32 [bhV 12 []], .cells 3 [.val (.int .i64 ((0 : Nat) : Int))], rdB 4 6 7 8 m, srcB 5 L s', datB L, tabB tabL, psB 9 10 (.sli o 0 c) none false (mkLi h li) (mkHl h hl), .dead, .dead, .dead, hpB h, outB 13 segs, segB segs, .dead, .cells 31 [.mem 17 0 (z0 :: zr).length], .dead] ++ [.fam 9 encStr 1 ([] ++ [(z0 :: zr)])], Ghost.trans (H1 := [.cells 43 [bhV 11 []], .cells 32 [bhV 12 []], .cells 3 [.val (.int .i64 ((0 : Nat) : Int))], rdB 4 6 7 8 m, srcB 5 L s', datB L, tabB tabL, psB 9 10 (.sli o 0 c) none false (mkLi h li) (mkHl h hl), .dead, .dead, .dead, hpB h, outB 13 segs, segB segs, strB (z0 :: zr), .cells 31 [.vec 14 (z0 :: zr).length], .fam 9 encStr 1 []]) (Ghost.fam0 w0 [.cells 43 [bhV 11 []], .cells 32 [bhV 12 []], .cells 3 [.val (.int .i64 ((0 : Nat) : Int))], rdB 4 6 7 8 m, srcB 5 L s', datB L, tabB tabL, psB 9 10 (.sli o 0 c) none false (mkLi h li) (mkHl h hl), .dead, .dead, .dead, hpB h, outB 13 segs, segB segs, strB (z0 :: zr), .cells 31 [.vec 14 (z0 :: zr).length]] 9 encStr 1 (by decide) (fun _ => rfl)) (Ghost.joinL 16 14 (H := [.cells 43 [bhV 11 []], .cells 32 [bhV 12 []], .cells 3 [.val (.int .i64 ((0 : Nat) : Int))], rdB 4 6 7 8 m, srcB 5 L s', datB L, tabB tabL, psB 9 10 (.sli o 0 c) none false (mkLi h li) (mkHl h hl), .dead, .dead, .dead, hpB h, outB 13 segs, segB segs, strB (z0 :: zr), .cells 31 [.vec 14 (z0 :: zr).length], .fam 9 encStr 1 []]) (H1 := [.cells 43 [bhV 11 []], .cells 32 [bhV 12 []], .cells 3 [.val (.int .i64 ((0 : Nat) : Int))], rdB 4 6 7 8 m, srcB 5 L s', datB L, tabB tabL, psB 9 10 (.sli o 0 c) none false (mkLi h li) (mkHl h hl), .dead, .dead, .dead, hpB h, outB 13 segs, segB segs, .dead, .cells 31 [.mem 17 0 (z0 :: zr).length], .dead]) (xss := []) (zs := (z0 :: zr)) (wr := true) rfl rfl ⟨.keep (by decide) (by decide), .keep (by decide) (by decide), .keep (by decide) (by decide), .keep (by decide) (by decide), .keep (by decide) (by decide), .keep (by decide) (by decide), .keep (by decide) (by decide), .keep (by decide) (by decide), .dead, .dead, .dead, .keep (by decide) (by decide), .keep (by decide) (by decide), .keep (by decide) (by decide), .dead, .cells (by decide) (by decide) rfl, .dead, trivial⟩), ?_⟩
         conv => whnf
         refine ⟨by decide, Option (Nat × Nat), encL, [17], [some (0, (z0 :: zr).length)], encL_len [17], ⟨rfl, rfl, rfl⟩, by simp only [List.length_cons, List.length_nil]; omega, by simp only [List.length_cons, List.length_nil]; omega, ?_⟩
         conv => whnf
         refine ⟨⟨⟨rfl, rfl⟩, trivial⟩, ?_⟩
         conv => whnf
         refine ⟨by decide, Int, encI .u64, [], [((le ((h.drop 6).take 8) : Nat) : Int)], fun _ => rfl, ⟨rfl, rfl, rfl⟩, by simp only [List.length_cons, List.length_nil]; omega, by simp only [List.length_cons, List.length_nil]; omega, ?_⟩
         conv => whnf
         refine ⟨trivial, ?_⟩
         conv => whnf
         refine ⟨trivial, ?_⟩
         conv => whnf
         refine ⟨⟨(s', (mkLi h li, mkHl h hl), [((z0 :: zr), le ((h.drop 6).take 8))]), hs', ?_⟩, ⟨[0, 1, 2, 3, 4, 5, 6, 7, 8, 9, 10, 18, 20, 17], ⟨rfl, ⟨rfl, rfl, rfl, rfl, rfl, rfl, rdE (by rfl) (by rfl) (by rfl) (by rfl) m, rfl, srcE (by rfl) _, rfl, rfl, rfl, rfl, rfl, rfl, rfl, show 8 < 21 by decide, show 9 < 21 by decide, show 10 < 21 by decide, rfl, rfl, rfl, rfl, rfl, rfl, trivial⟩, rfl⟩, rfl, rfl, rfl, rfl, trivial⟩, ?_⟩
         · have h9 := hrd2
           unfold pgEl at h9
           simp only at h9
           rw [← hz] at h9
           exact hr'.symm ▸ h9
         · show (s'.rem L).length < (s.rem L).length
           rw [hr']
           omega
 | cons y0 yr =>
   have hml : (rowsL 0 ((y0 :: yr).map Prod.fst)).length = yr.length + 1 := by rw [rowsL_len, List.length_map]; rfl
   have hml2 : (((y0 :: yr).map Prod.snd).map fun (n : Nat) => (n : Int)).length = yr.length + 1 := by rw [List.length_map, List.length_map]; rfl
   have hyrl : (y0 :: yr).length = yr.length + 1 := rfl
   have hyr : yr.length ≤ 1099511627776 := by omega
   conv => whnf
   refine CallsA.liftKE (H0 := [rdB 1 3 4 5 m, srcB 2 L s, datB L, tabB tabL, psB 6 7 (.sli o 0 c) none false li hl, .dead, .dead, .dead]) [3, 4, 5, 6, 7, 8, 9, 10] [.dead, .dead, .dead, rdB 4 6 7 8 m, srcB 5 L s, datB L, tabB tabL, psB 9 10 (.sli o 0 c) none false li hl, .dead, .dead, .dead, .dead, .dead, .dead] ⟨rfl, rfl, rfl, rfl, rfl, trivial⟩ rfl ⟨rdE (by rfl) (by rfl) (by rfl) (by rfl) m, rfl, srcE (by rfl) _, rfl, rfl, rfl, rfl, rfl, rfl, rfl, show 8 < 14 by decide, show 9 < 14 by decide, show 10 < 14 by decide, trivial⟩ rfl hnp ?_
   intro r H hrH
   cases G with
   | none =>
     obtain ⟨k, hk, hk0, rfl, rfl⟩ := hrH
     have hkk : k < 12 ∧ k ≠ 3 ∧ k ≠ 6 := by omega
     have hfin := hrd.fin hG.symm
     refine ⟨.t [.c (.val (.slice none 0 0)), .c (.val (.pointer none)), .c (.val (.iface t (v k)))], [.cells 43 [bhV 11 (y0 :: yr)], .cells 32 [bhV 12 (y0 :: yr)], .cells 3 [.val (.int .i64 ((0 : Nat) : Int))], .dead, .dead, .dead, .dead, .dead, .dead, .dead, .dead, outL 13 (((y0 :: yr)).map Prod.fst), grB (((y0 :: yr)).map Prod.snd), fmB (((y0 :: yr)).map Prod.fst)], rfl, ⟨rfl, rfl, rfl, rfl, rfl, rfl, rfl, rfl, rfl, rfl, rfl, rfl, rfl, rfl, trivial⟩, ?_⟩
     conv => whnf
     refine Or.inl ?_
     conv => whnf
     refine ⟨.iface t (v 0), ?_⟩
     conv => whnf
     refine ⟨he.get 0 (by decide) (by decide) (by decide), ?_⟩
     conv => whnf
     refine ⟨rfl, ?_⟩
     conv => whnf
     refine ⟨_, he.eq0 k hkk.1 hkk.2.1 hkk.2.2, ?_⟩
     conv => whnf
     refine ⟨fun g => ?_, fun g => ?_⟩
     · have g : k = 0 := of_decide_eq_true g
       conv => whnf
       refine ⟨⟨⟨rfl, rfl⟩, trivial⟩, ?_⟩
       conv => whnf
       refine ⟨trivial, ?_⟩
       conv => whnf
       refine ⟨trivial, ?_⟩
       conv => whnf
       exact Or.inr ⟨[11, 12, 13], .t [.c (bhV 0 (y0 :: yr)), .c (bhV 1 (y0 :: yr)), .c (.val (.int .i64 ((0 : Nat) : Int)))], bhO 2 (y0 :: yr), ⟨rfl, ⟨rfl, rfl, rfl, rfl, rfl, rfl, trivial⟩, rfl⟩, rfl, 0, by decide, fun _ => rfl, by rw [hfin]; exact ⟨rfl, rfl⟩⟩
     · have g : k ≠ 0 := of_decide_eq_false g
       conv => whnf
       refine Or.inl ?_
       conv => whnf
       refine ⟨fun _ => ?_, fun g => zT g⟩
       conv => whnf
       refine ⟨⟨⟨rfl, rfl⟩, trivial⟩, ?_⟩
       conv => whnf
       refine ⟨trivial, ?_⟩
       conv => whnf
       refine ⟨trivial, ?_⟩
       conv => whnf
       exact Or.inr ⟨[11, 12, 13], .t [.c (bhV 0 (y0 :: yr)), .c (bhV 1 (y0 :: yr)), .c (.val (.int .i64 ((1 : Nat) : Int)))], bhO 2 (y0 :: yr), ⟨rfl, ⟨rfl, rfl, rfl, rfl, rfl, rfl, trivial⟩, rfl⟩, rfl, 1, by decide, fun hx => absurd (hk0 (by rw [hfin] at hx; exact hx)) g, by rw [hfin]; exact ⟨rfl, rfl⟩⟩
   | some x =>
     obtain ⟨g, rest⟩ := x
     obtain ⟨s', hs', hr', rfl, rfl⟩ := hrH
     have hgf := (pageI_facts hG.symm).2 hrb
     have hrd2 := hrd.snoc hG.symm
     have hrl := (pageI_facts hG.symm).1
     obtain ⟨h, sizes, segs⟩ := g
     refine ⟨.t [.c (.vec 15 segs.length), .c (.ptr 14 0), .c (.val .nilIface)], [.cells 43 [bhV 11 (y0 :: yr)], .cells 32 [bhV 12 (y0 :: yr)], .cells 3 [.val (.int .i64 ((0 : Nat) : Int))], rdB 4 6 7 8 m, srcB 5 L s', datB L, tabB tabL, psB 9 10 (.sli o 0 c) none false (mkLi h li) (mkHl h hl), .dead, .dead, .dead, outL 13 (((y0 :: yr)).map Prod.fst), grB (((y0 :: yr)).map Prod.snd), fmB (((y0 :: yr)).map Prod.fst), hpB h, outB 16 segs, segB segs], rfl, ⟨rfl, rfl, rfl, rdB_ren (by rfl) (by rfl) (by rfl) (by rfl) m, srcB_ren (by rfl) _, rfl, rfl, rfl, rfl, rfl, rfl, rfl, rfl, rfl, rfl, rfl, rfl, trivial⟩, ?_⟩
     conv => whnf
     refine Or.inl ?_
     conv => whnf
     refine ⟨.iface t (v 0), ?_⟩
     conv => whnf
     refine ⟨he.get 0 (by decide) (by decide) (by decide), ?_⟩
     conv => whnf
     refine ⟨rfl, ?_⟩
     conv => whnf
     refine ⟨he.nil0, ?_⟩
     conv => whnf
     refine ⟨fun g => zF g, fun _ => ?_⟩
     conv => whnf
     refine Or.inl ?_
     conv => whnf
     refine ⟨fun g => zF g, fun _ => ?_⟩
     conv => whnf
     obtain ⟨z, hz⟩ : ∃ z, z = strsL segs := ⟨_, rfl⟩
     have hzl : z.length = segs.length := by rw [hz]; exact List.length_map ..
     have hsl : segs.length ≤ 256 := hgf.2.1
     refine Or.inr ⟨Unit, fun _ => ⟨(9, .o (.c (.ptr 14 0))) :: (11, .o (.c (lsV 17 z))) :: opE, [.cells 43 [bhV 11 (y0 :: yr)], .cells 32 [bhV 12 (y0 :: yr)], .cells 3 [.val (.int .i64 ((0 : Nat) : Int))], rdB 4 6 7 8 m, srcB 5 L s', datB L, tabB tabL, psB 9 10 (.sli o 0 c) none false (mkLi h li) (mkHl h hl), .dead, .dead, .dead, outL 13 (((y0 :: yr)).map Prod.fst), grB (((y0 :: yr)).map Prod.snd), fmB (((y0 :: yr)).map Prod.fst), hpB h, outB 16 segs, segB segs] ++ lsH z⟩, ?_, fun _ => ?_⟩
     · conv => whnf
       refine ⟨{x : Nat × List ByteArray // x.1 ≤ segs.length ∧ x.2 = strsL (segs.take x.1)}, fun ⟨⟨i, zz⟩, _⟩ => ⟨(38, .o (.c (.vec 15 segs.length))) :: (39, .o (.c (.val (.int .i64 (segs.length : Nat))))) :: (40, .o (.c (.val (.int .i64 (i : Nat))))) :: (9, .o (.c (.ptr 14 0))) :: (11, .o (.c (lsV 17 zz))) :: opE, [.cells 43 [bhV 11 (y0 :: yr)], .cells 32 [bhV 12 (y0 :: yr)], .cells 3 [.val (.int .i64 ((0 : Nat) : Int))], rdB 4 6 7 8 m, srcB 5 L s', datB L, tabB tabL, psB 9 10 (.sli o 0 c) none false (mkLi h li) (mkHl h hl), .dead, .dead, .dead, outL 13 (((y0 :: yr)).map Prod.fst), grB (((y0 :: yr)).map Prod.snd), fmB (((y0 :: yr)).map Prod.fst), hpB h, outB 16 segs, segB segs] ++ lsH zz⟩, fun x => segs.length - x.1.1, ⟨⟨(0, []), Nat.zero_le _, rfl⟩, [0, 1, 2, 3, 4, 5, 6, 7, 8, 9, 10, 11, 12, 13, 14, 15, 16], ⟨rfl, ⟨rfl, rfl, rfl, rfl, rfl, rfl, rdE (by rfl) (by rfl) (by rfl) (by rfl) m, rfl, srcE (by rfl) _, rfl, rfl, rfl, rfl, rfl, rfl, rfl, show 8 < 17 by decide, show 9 < 17 by decide, show 10 < 17 by decide, rfl, rfl, rfl, rfl, rfl, rfl, rfl, rfl, rfl, rfl, rfl, rfl, trivial⟩, rfl⟩, rfl, rfl, rfl, rfl, rfl, rfl, rfl, rfl, rfl, trivial⟩, fun ⟨⟨i, zz⟩, hi, hzz⟩ => ?_⟩
       simp only at hi hzz
       have hzzl : zz.length = i := by rw [hzz]; unfold strsL; rw [List.length_map, List.length_take]; omega
       cases zz with
       | nil =>
         conv => whnf
         refine ⟨fun g => ?_, fun g => ?_⟩
         · have g : i < segs.length := lt_t g
           obtain ⟨x, hx⟩ : ∃ x, segs[i]? = some x := ⟨_, List.getElem?_eq_getElem g⟩
           have hrow : (turns (segs.map List.length))[i]? = some (i, x.length) := by rw [turns_get, List.getElem?_map, hx]; rfl
           conv => whnf
           refine ⟨⟨Int.natCast_nonneg i, Int.ofNat_lt.2 g⟩, ?_⟩
           conv => whnf
           refine ⟨(i, x.length), hrow, ?_⟩
           conv => whnf
           refine ⟨trivial, x, ?_, ?_⟩
           · exact ⟨rfl, x, hx, Nat.le_refl _, rfl, by show _ = flat (encI .u8) [] (x.take x.length); rw [List.take_length]⟩
           conv => whnf
           refine ⟨by decide, ByteArray, encStr, [], [strOf x], fun _ => rfl, ⟨rfl, rfl, rfl⟩, by simp only [List.length_cons, List.length_nil]; omega, by simp only [List.length_cons, List.length_nil]; omega, ?_⟩
           conv => whnf
           refine ⟨⟨(i + 1, [strOf x]), g, ?_⟩, ⟨[0, 1, 2, 3, 4, 5, 6, 7, 8, 9, 10, 11, 12, 13, 14, 15, 16, 18], ⟨rfl, ⟨rfl, rfl, rfl, rfl, rfl, rfl, rdE (by rfl) (by rfl) (by rfl) (by rfl) m, rfl, srcE (by rfl) _, rfl, rfl, rfl, rfl, rfl, rfl, rfl, show 8 < 19 by decide, show 9 < 19 by decide, show 10 < 19 by decide, rfl, rfl, rfl, rfl, rfl, rfl, rfl, rfl, rfl, rfl, rfl, rfl, rfl, rfl, trivial⟩, rfl⟩, rfl, rfl, eq_i64 (by rw [nadd, nwrapi (by omega)]), rfl, rfl, rfl, rfl, rfl, rfl, trivial⟩, by show segs.length - (i + 1) < segs.length - i; omega⟩
           show [strOf x] = strsL (segs.take (i + 1))
           unfold strsL
           rw [List.take_add_one, hx, List.map_append]
           show _ = strsL (segs.take i) ++ [strOf x]
           rw [← hzz]
           rfl
         · have g : segs.length ≤ i := lt_f g
           rw [List.take_of_length_le g, ← hz] at hzz
           rw [← hzz]
           conv => whnf
           exact ⟨(), [0, 1, 2, 3, 4, 5, 6, 7, 8, 9, 10, 11, 12, 13, 14, 15, 16], ⟨rfl, ⟨rfl, rfl, rfl, rfl, rfl, rfl, rdE (by rfl) (by rfl) (by rfl) (by rfl) m, rfl, srcE (by rfl) _, rfl, rfl, rfl, rfl, rfl, rfl, rfl, show 8 < 17 by decide, show 9 < 17 by decide, show 10 < 17 by decide, rfl, rfl, rfl, rfl, rfl, rfl, rfl, rfl, rfl, rfl, rfl, rfl, trivial⟩, rfl⟩, rfl, rfl, rfl, rfl, rfl, rfl, trivial⟩
       | cons z0 zr =>
         have hzl2 : (z0 :: zr).length = zr.length + 1 := rfl
         conv => whnf
         refine ⟨fun g => ?_, fun g => ?_⟩
         · have g : i < segs.length := lt_t g
           obtain ⟨x, hx⟩ : ∃ x, segs[i]? = some x := ⟨_, List.getElem?_eq_getElem g⟩
           have hrow : (turns (segs.map List.length))[i]? = some (i, x.length) := by rw [turns_get, List.getElem?_map, hx]; rfl
           conv => whnf
           refine ⟨⟨Int.natCast_nonneg i, Int.ofNat_lt.2 g⟩, ?_⟩
           conv => whnf
           refine ⟨(i, x.length), hrow, ?_⟩
           conv => whnf
           refine ⟨trivial, x, ?_, ?_⟩
           · exact ⟨rfl, x, hx, Nat.le_refl _, rfl, by show _ = flat (encI .u8) [] (x.take x.length); rw [List.take_length]⟩
           conv => whnf
           refine ⟨rfl, [strOf x], ⟨rfl, rfl, rfl⟩, by rw [List.length_append, List.length_singleton]; omega, by rw [List.length_append, List.length_singleton]; omega, ?_⟩
           conv => whnf
           refine ⟨⟨(i + 1, z0 :: (zr ++ [strOf x])), g, ?_⟩, ⟨[0, 1, 2, 3, 4, 5, 6, 7, 8, 9, 10, 11, 12, 13, 14, 15, 16, 19], ⟨rfl, ⟨rfl, rfl, rfl, rfl, rfl, rfl, rdE (by rfl) (by rfl) (by rfl) (by rfl) m, rfl, srcE (by rfl) _, rfl, rfl, rfl, rfl, rfl, rfl, rfl, show 8 < 20 by decide, show 9 < 20 by decide, show 10 < 20 by decide, rfl, rfl, rfl, rfl, rfl, rfl, rfl, rfl, rfl, rfl, rfl, rfl, rfl, rfl, trivial⟩, rfl⟩, rfl, rfl, eq_i64 (by rw [nadd, nwrapi (by omega)]), rfl, rfl, rfl, rfl, rfl, rfl, trivial⟩, by show segs.length - (i + 1) < segs.length - i; omega⟩
           show z0 :: (zr ++ [strOf x]) = strsL (segs.take (i + 1))
           unfold strsL
           rw [List.take_add_one, hx, List.map_append]
           show _ = strsL (segs.take i) ++ [strOf x]
           rw [← hzz]
           rfl
         · have g : segs.length ≤ i := lt_f g
           rw [List.take_of_length_le g, ← hz] at hzz
           rw [← hzz]
           conv => whnf
           exact ⟨(), [0, 1, 2, 3, 4, 5, 6, 7, 8, 9, 10, 11, 12, 13, 14, 15, 16, 17], ⟨rfl, ⟨rfl, rfl, rfl, rfl, rfl, rfl, rdE (by rfl) (by rfl) (by rfl) (by rfl) m, rfl, srcE (by rfl) _, rfl, rfl, rfl, rfl, rfl, rfl, rfl, show 8 < 18 by decide, show 9 < 18 by decide, show 10 < 18 by decide, rfl, rfl, rfl, rfl, rfl, rfl, rfl, rfl, rfl, rfl, rfl, rfl, rfl, rfl, trivial⟩, rfl⟩, rfl, rfl, rfl, rfl, rfl, rfl, trivial⟩
     · have hle : 27 * (yr.length + 1) + 27 ≤ 1099511627776 := by omega
       cases z with
       | nil =>
         conv => whnf
         refine ⟨_, Ghost.refl w0 _, ?_⟩
         conv => whnf
         refine ⟨hml.symm, [none], ⟨rfl, rfl, rfl⟩, apB _ hml hyr (by decide), apL _ hml hyr, ?_⟩
         conv => whnf
         refine ⟨⟨⟨rfl, rfl⟩, trivial⟩, ?_⟩
         conv => whnf
         refine ⟨hml2.symm, [((le ((h.drop 6).take 8) : Nat) : Int)], ⟨rfl, rfl, rfl⟩, apB _ hml2 hyr (by decide), apL _ hml2 hyr, ?_⟩
         conv => whnf
         refine ⟨trivial, ?_⟩
         conv => whnf
         refine ⟨trivial, ?_⟩
         conv => whnf
         refine ⟨⟨(s', (mkLi h li, mkHl h hl), y0 :: (yr ++ [([], le ((h.drop 6).take 8))])), hs', ?_⟩, ⟨[0, 1, 2, 3, 4, 5, 6, 7, 8, 9, 10, 18, 20, 13], ⟨rfl, ⟨?_, rfl, ?_, rfl, rfl, rfl, rdE (by rfl) (by rfl) (by rfl) (by rfl) m, rfl, srcE (by rfl) _, rfl, rfl, rfl, rfl, rfl, rfl, rfl, show 8 < 21 by decide, show 9 < 21 by decide, show 10 < 21 by decide, ?_, rfl, ?_, rfl, ?_, rfl, trivial⟩, rfl⟩, rfl, rfl, rfl, rfl, trivial⟩, ?_⟩
         rotate_left
         · show some (Blk.cells 43 [CV.vec 18 (rowsL 0 ((y0 :: yr).map Prod.fst) ++ [none]).length]) = some (Blk.cells 43 [CV.vec 18 ((y0 :: yr) ++ [([], le ((h.drop 6).take 8))]).length])
           rw [List.length_append, rowsL_len, List.length_map, List.length_append]
           rfl
         · show some (Blk.cells 32 [CV.vec 20 (((y0 :: yr).map Prod.snd).map (fun (n : Nat) => (n : Int)) ++ [((le ((h.drop 6).take 8) : Nat) : Int)]).length]) = some (Blk.cells 32 [CV.vec 20 ((y0 :: yr) ++ [([], le ((h.drop 6).take 8))]).length])
           rw [List.length_append, List.length_map, List.length_map, List.length_append]
           rfl
         · show some (Blk.vec true 31 encL [13] 1 (rowsL 0 ((y0 :: yr).map Prod.fst) ++ [none])) = some (Blk.vec true 31 encL [13] 1 (rowsL 0 (((y0 :: yr) ++ [([], le ((h.drop 6).take 8))]).map Prod.fst)))
           rw [List.map_append, show [([], le ((h.drop 6).take 8))].map Prod.fst = [[]] from rfl, rowsL_snoc, Nat.zero_add]
           rfl
         · show some (Blk.vec true 39 (encI .u64) [] 1 (((y0 :: yr).map Prod.snd).map (fun (n : Nat) => (n : Int)) ++ [((le ((h.drop 6).take 8) : Nat) : Int)])) = some (grB (((y0 :: yr) ++ [([], le ((h.drop 6).take 8))]).map Prod.snd))
           unfold grB
           rw [List.map_append, List.map_append]
           rfl
         · show some (Blk.fam 9 encStr 1 (famL ((y0 :: yr).map Prod.fst))) = some (fmB (((y0 :: yr) ++ [([], le ((h.drop 6).take 8))]).map Prod.fst))
           unfold fmB
           rw [List.map_append, show [([], le ((h.drop 6).take 8))].map Prod.fst = [[]] from rfl, famL_nil]
         rotate_left
         · have h9 := hrd2
           unfold pgEl at h9
           simp only at h9
           rw [← hz] at h9
           exact hr'.symm ▸ h9
         · show (s'.rem L).length < (s.rem L).length
           rw [hr']
           omega
       | cons z0 zr =>
         conv => whnf
         refine ⟨[.cells 43 [bhV 11 (y0 :: yr)], .cells 32 [bhV 12 (y0 :: yr)], .cells 3 [.val (.int .i64 ((0 : Nat) : Int))], rdB 4 6 7 8 m, srcB 5 L s', datB L, tabB tabL, psB 9 10 (.sli o 0 c) none false (mkLi h li) (mkHl h hl), .dead, .dead, .dead, outL 19 ((y0 :: yr).map Prod.fst), grB ((y0 :: yr).map Prod.snd), .dead, hpB h, outB 16 segs, segB segs, .dead, .cells 31 [.mem 19 (famL ((y0 :: yr).map Prod.fst)).length (z0 :: zr).length]] ++ [.fam 9 encStr 1 (famL ((y0 :: yr).map Prod.fst) ++ [(z0 :: zr)])], Ghost.joinL 13 17 (H := [.cells 43 [bhV 11 (y0 :: yr)], .cells 32 [bhV 12 (y0 :: yr)], .cells 3 [.val (.int .i64 ((0 : Nat) : Int))], rdB 4 6 7 8 m, srcB 5 L s', datB L, tabB tabL, psB 9 10 (.sli o 0 c) none false (mkLi h li) (mkHl h hl), .dead, .dead, .dead, outL 13 ((y0 :: yr).map Prod.fst), grB ((y0 :: yr).map Prod.snd), fmB ((y0 :: yr).map Prod.fst), hpB h, outB 16 segs, segB segs, strB (z0 :: zr), .cells 31 [.vec 17 (z0 :: zr).length]]) (H1 := [.cells 43 [bhV 11 (y0 :: yr)], .cells 32 [bhV 12 (y0 :: yr)], .cells 3 [.val (.int .i64 ((0 : Nat) : Int))], rdB 4 6 7 8 m, srcB 5 L s', datB L, tabB tabL, psB 9 10 (.sli o 0 c) none false (mkLi h li) (mkHl h hl), .dead, .dead, .dead, outL 19 ((y0 :: yr).map Prod.fst), grB ((y0 :: yr).map Prod.snd), .dead, hpB h, outB 16 segs, segB segs, .dead, .cells 31 [.mem 19 (famL ((y0 :: yr).map Prod.fst)).length (z0 :: zr).length]]) (xss := famL ((y0 :: yr).map Prod.fst)) (zs := (z0 :: zr)) (wr := true) rfl rfl ⟨.keep (by decide) (by decide), .keep (by decide) (by decide), .keep (by decide) (by decide), .keep (by decide) (by decide), .keep (by decide) (by decide), .keep (by decide) (by decide), .keep (by decide) (by decide), .keep (by decide) (by decide), .dead, .dead, .dead, .vec (by decide) (by decide) rfl (fun x => encL_len _ x) (flatL_tau _ _ _ _ _).symm, .keep (by decide) (by decide), .dead, .keep (by decide) (by decide), .keep (by decide) (by decide), .keep (by decide) (by decide), .dead, .cells (by decide) (by decide) rfl, trivial⟩, ?_⟩
         conv => whnf
         refine ⟨hml.symm, [some ((famL ((y0 :: yr).map Prod.fst)).length, (z0 :: zr).length)], ⟨rfl, rfl, rfl⟩, apB _ hml hyr (by decide), apL _ hml hyr, ?_⟩
         conv => whnf
         refine ⟨⟨⟨rfl, rfl⟩, trivial⟩, ?_⟩
         conv => whnf
         refine ⟨hml2.symm, [((le ((h.drop 6).take 8) : Nat) : Int)], ⟨rfl, rfl, rfl⟩, apB _ hml2 hyr (by decide), apL _ hml2 hyr, ?_⟩
         conv => whnf
         refine ⟨trivial, ?_⟩
         conv => whnf
         refine ⟨trivial, ?_⟩
         conv => whnf
         refine ⟨⟨(s', (mkLi h li, mkHl h hl), y0 :: (yr ++ [((z0 :: zr), le ((h.drop 6).take 8))])), hs', ?_⟩, ⟨[0, 1, 2, 3, 4, 5, 6, 7, 8, 9, 10, 20, 22, 19], ⟨rfl, ⟨?_, rfl, ?_, rfl, rfl, rfl, rdE (by rfl) (by rfl) (by rfl) (by rfl) m, rfl, srcE (by rfl) _, rfl, rfl, rfl, rfl, rfl, rfl, rfl, show 8 < 23 by decide, show 9 < 23 by decide, show 10 < 23 by decide, ?_, rfl, ?_, rfl, ?_, rfl, trivial⟩, rfl⟩, rfl, rfl, rfl, rfl, trivial⟩, ?_⟩
         rotate_left
         · show some (Blk.cells 43 [CV.vec 20 (rowsL 0 ((y0 :: yr).map Prod.fst) ++ [some ((famL ((y0 :: yr).map Prod.fst)).length, (z0 :: zr).length)]).length]) = some (Blk.cells 43 [CV.vec 20 ((y0 :: yr) ++ [((z0 :: zr), le ((h.drop 6).take 8))]).length])
           rw [List.length_append, rowsL_len, List.length_map, List.length_append]
           rfl
         · show some (Blk.cells 32 [CV.vec 22 (((y0 :: yr).map Prod.snd).map (fun (n : Nat) => (n : Int)) ++ [((le ((h.drop 6).take 8) : Nat) : Int)]).length]) = some (Blk.cells 32 [CV.vec 22 ((y0 :: yr) ++ [((z0 :: zr), le ((h.drop 6).take 8))]).length])
           rw [List.length_append, List.length_map, List.length_map, List.length_append]
           rfl
         · show some (Blk.vec true 31 encL [19] 1 (rowsL 0 ((y0 :: yr).map Prod.fst) ++ [some ((famL ((y0 :: yr).map Prod.fst)).length, (z0 :: zr).length)])) = some (Blk.vec true 31 encL [19] 1 (rowsL 0 (((y0 :: yr) ++ [((z0 :: zr), le ((h.drop 6).take 8))]).map Prod.fst)))
           rw [List.map_append, show [((z0 :: zr), le ((h.drop 6).take 8))].map Prod.fst = [(z0 :: zr)] from rfl, rowsL_snoc, Nat.zero_add]
           rfl
         · show some (Blk.vec true 39 (encI .u64) [] 1 (((y0 :: yr).map Prod.snd).map (fun (n : Nat) => (n : Int)) ++ [((le ((h.drop 6).take 8) : Nat) : Int)])) = some (grB (((y0 :: yr) ++ [((z0 :: zr), le ((h.drop 6).take 8))]).map Prod.snd))
           unfold grB
           rw [List.map_append, List.map_append]
           rfl
         · show some (Blk.fam 9 encStr 1 (famL ((y0 :: yr).map Prod.fst) ++ [(z0 :: zr)])) = some (fmB (((y0 :: yr) ++ [((z0 :: zr), le ((h.drop 6).take 8))]).map Prod.fst))
           unfold fmB
           rw [List.map_append, show [((z0 :: zr), le ((h.drop 6).take 8))].map Prod.fst = [(z0 :: zr)] from rfl, famL_cons]
         rotate_left
         · have h9 := hrd2
           unfold pgEl at h9
           simp only at h9
           rw [← hz] at h9
           exact hr'.symm ▸ h9
         · show (s'.rem L).length < (s.rem L).length
           rw [hr']
           omega
end Go.Proofs.YtokkphocaloelaaGreatDoor

end
section
namespace Go.Proofs.YtokkphocaloelaaGreatDoor
open Go Go.Vc
set_option maxRecDepth 100000
theorem c32_ : compF Tryz.prog 32 = some (.mk (sr [gg 4 (.mov (.k (.string (ByteArray.mk #[]))))] (sr [gm 5 0, gm 6 1, gg 7 (.call 57 [(.t 5), (.t 6)]), gm 4 7] .ret)) 2 [(.t 4)]) := by kernel_rfl
theorem c57_ : compF Tryz.prog 57 = some (.mk (sr [gg 4 (.mov (.k (.string (ByteArray.mk #[]))))] (.cut (sr [gm 10 1, gg 11 (.bin .eql (.t 10) (xk .i64 10))] (.cond (.t 11) (.cut (sr [gm 12 0, gg 13 (.bin .leq (xk .i64 0) (.t 12)), gm 14 13, gq 15 14 true (.mov (.t 0)), gq 16 14 true (.bin .lss (.t 15) (xk .i64 100)), gg 17 (.pick (.t 14) (.t 16) (.k (.bool false)))] (.cond (.t 17) (sr [gm 18 0, gg 19 (.call 98 [(.t 18)]), gm 4 19] .ret) .skip)) (sr [gg 5 (.ala 180 [(.int .u8 ((0:Nat):Int)), (.int .u8 ((0:Nat):Int)), (.int .u8 ((0:Nat):Int)), (.int .u8 ((0:Nat):Int)), (.int .u8 ((0:Nat):Int)), (.int .u8 ((0:Nat):Int)), (.int .u8 ((0:Nat):Int)), (.int .u8 ((0:Nat):Int)), (.int .u8 ((0:Nat):Int)), (.int .u8 ((0:Nat):Int)), (.int .u8 ((0:Nat):Int)), (.int .u8 ((0:Nat):Int)), (.int .u8 ((0:Nat):Int)), (.int .u8 ((0:Nat):Int)), (.int .u8 ((0:Nat):Int)), (.int .u8 ((0:Nat):Int)), (.int .u8 ((0:Nat):Int)), (.int .u8 ((0:Nat):Int)), (.int .u8 ((0:Nat):Int)), (.int .u8 ((0:Nat):Int)), (.int .u8 ((0:Nat):Int)), (.int .u8 ((0:Nat):Int)), (.int .u8 ((0:Nat):Int)), (.int .u8 ((0:Nat):Int))])] (sr [gm 20 0, gg 21 (.cvi .u64 (.t 20)), gm 6 21] (.cut (sr [gm 22 0, gg 23 (.bin .lss (.t 22) (xk .i64 0))] (.cond (.t 23) (.reg [gm 24 6, gg 25 (.un .neg (.t 24)), gm 6 25]) .skip)) (sr [gm 26 6, gg 27 (.call 99 [(.t 26)]), gm 7 27] (sr [gm 28 7, gg 29 (.bin .add (xk .i64 1) (.t 28)), gg 30 (.sla (.t 5) (some (xk .i64 1)) (some (.t 29)) 1 24), gm 31 6, gg 32 (.call 100 [(.t 30), (.t 31)])] (.cut (sr [gm 33 0, gg 34 (.bin .lss (.t 33) (xk .i64 0))] (.cond (.t 34) (sr [gg 35 (.iaa (.t 5) (xk .i64 0) 1 24), (G.mk none none (.st (.t 35) (xk .u8 45) 1))] (sr [gm 36 7, gg 37 (.bin .add (xk .i64 1) (.t 36)), gg 38 (.sll (.t 5) (some (.t 37)) 1 24), gg 39 (.b2s (.t 38)), gm 4 39] .ret)) .skip)) (sr [gm 40 7, gg 41 (.bin .add (xk .i64 1) (.t 40)), gg 42 (.sla (.t 5) (some (xk .i64 1)) (some (.t 41)) 1 24), gg 43 (.b2s (.t 42)), gm 4 43] .ret)))))))) .skip)) (sr [gm 45 0, gg 46 (.cvi .u64 (.t 45)), gm 47 1, gm 48 0, gg 49 (.bin .lss (.t 48) (xk .i64 0)), gg 50 (.call 101 [(.k (.slice none 0 0)), (.t 46), (.t 47), (.t 49), (.k (.bool false))]), gm 44 50, gg 51 (.ext (.t 44) 0), gg 52 (.ext (.t 44) 1), gm 8 51, gm 9 52] (sr [gm 53 9, gm 4 53] .ret)))) 2 [(.t 4)]) := by kernel_rfl
theorem c98_ : compF Tryz.prog 98 = some (.mk (sr [gg 2 (.mov (.k (.string (ByteArray.mk #[]))))] (.cut (sr [gm 3 0, gg 4 (.bin .lss (.t 3) (xk .i64 10))] (.cond (.t 4) (sr [gm 5 0, gm 6 0, gg 7 (.bin .add (.t 6) (xk .i64 1)), gg 8 (.sls (.k (.string (ByteArray.mk #[48, 49, 50, 51, 52, 53, 54, 55, 56, 57, 97, 98, 99, 100, 101, 102, 103, 104, 105, 106, 107, 108, 109, 110, 111, 112, 113, 114, 115, 116, 117, 118, 119, 120, 121, 122]))) (some (.t 5)) (some (.t 7))), gm 2 8] .ret) .skip)) (sr [gm 9 0, gg 10 (.bin .mul (.t 9) (xk .i64 2)), gm 11 0, gg 12 (.bin .mul (.t 11) (xk .i64 2)), gg 13 (.bin .add (.t 12) (xk .i64 2)), gg 14 (.sls (.k (.string (ByteArray.mk #[48, 48, 48, 49, 48, 50, 48, 51, 48, 52, 48, 53, 48, 54, 48, 55, 48, 56, 48, 57, 49, 48, 49, 49, 49, 50, 49, 51, 49, 52, 49, 53, 49, 54, 49, 55, 49, 56, 49, 57, 50, 48, 50, 49, 50, 50, 50, 51, 50, 52, 50, 53, 50, 54, 50, 55, 50, 56, 50, 57, 51, 48, 51, 49, 51, 50, 51, 51, 51, 52, 51, 53, 51, 54, 51, 55, 51, 56, 51, 57, 52, 48, 52, 49, 52, 50, 52, 51, 52, 52, 52, 53, 52, 54, 52, 55, 52, 56, 52, 57, 53, 48, 53, 49, 53, 50, 53, 51, 53, 52, 53, 53, 53, 54, 53, 55, 53, 56, 53, 57, 54, 48, 54, 49, 54, 50, 54, 51, 54, 52, 54, 53, 54, 54, 54, 55, 54, 56, 54, 57, 55, 48, 55, 49, 55, 50, 55, 51, 55, 52, 55, 53, 55, 54, 55, 55, 55, 56, 55, 57, 56, 48, 56, 49, 56, 50, 56, 51, 56, 52, 56, 53, 56, 54, 56, 55, 56, 56, 56, 57, 57, 48, 57, 49, 57, 50, 57, 51, 57, 52, 57, 53, 57, 54, 57, 55, 57, 56, 57, 57]))) (some (.t 10)) (some (.t 13))), gm 2 14] .ret))) 1 [(.t 2)]) := by kernel_rfl
theorem c99_ : compF Tryz.prog 99 = some (.mk (sr [gg 2 (.mov (xk .i64 0))] (sr [gm 4 0, gg 5 (.call 124 [(.t 4)]), gg 6 (.call 123 [(.t 5)]), gm 3 6] (sr [gm 7 3, gm 8 0, gm 9 3, gg 10 (.iaa (.k (.pointer (some (Addr.mk 6 0 none)))) (.t 9) 1 20), gg 11 (.ld (.t 10) none), gg 12 (.bin .geq (.t 8) (.t 11)), gg 13 (.call 125 [(.t 12)]), gg 14 (.bin .add (.t 7) (.t 13)), gm 2 14] .ret))) 1 [(.t 2)]) := by kernel_rfl
theorem c100_ : compF Tryz.prog 100 = some (.mk (sr [gm 17 0, gg 18 (.len false (.t 17)), gm 4 18] (.cut (.block 0 (.loop (.seq (sr [gm 19 4, gg 20 (.bin .geq (.t 19) (xk .i64 8))] (.cond (.t 20) .skip (.exit 0))) (.block 1 (sr [gm 21 1, gg 22 (.bik .rem .u64 (.t 21) 100000000), gg 23 (.cvi .u32 (.t 22)), gm 5 23] (sr [gm 24 1, gg 25 (.bik .quo .u64 (.t 24) 100000000), gm 1 25] (sr [gm 26 5, gg 27 (.bik .quo .u32 (.t 26) 10000), gm 28 5, gg 29 (.bik .rem .u32 (.t 28) 10000), gm 6 27, gm 7 29] (sr [gm 30 7, gg 31 (.bik .quo .u32 (.t 30) 100), gg 32 (.bin .mul (.t 31) (xk .u32 2)), gm 33 7, gg 34 (.bik .rem .u32 (.t 33) 100), gg 35 (.bin .mul (.t 34) (xk .u32 2)), gm 8 32, gm 9 35] (sr [gm 36 6, gg 37 (.bik .quo .u32 (.t 36) 100), gg 38 (.bin .mul (.t 37) (xk .u32 2)), gm 39 6, gg 40 (.bik .rem .u32 (.t 39) 100), gg 41 (.bin .mul (.t 40) (xk .u32 2)), gm 10 38, gm 11 41] (.seq (.drw [(.mk (gm 42 0) 0 true []), (.mk (gm 43 4) 1 true []), (.mk (gg 44 (.bin .sub (.t 43) (xk .i64 1))) 2 true []), (.mk (gm 45 0) 3 true []), (.mk (gm 46 4) 4 true []), (.mk (gg 47 (.bin .sub (.t 46) (xk .i64 2))) 5 true []), (.mk (gm 48 9) 6 true []), (.mk (gg 49 (.bin .add (.t 48) (xk .u32 1))) 7 true []), (.mk (gg 50 (.si (.k (.string (ByteArray.mk #[48, 48, 48, 49, 48, 50, 48, 51, 48, 52, 48, 53, 48, 54, 48, 55, 48, 56, 48, 57, 49, 48, 49, 49, 49, 50, 49, 51, 49, 52, 49, 53, 49, 54, 49, 55, 49, 56, 49, 57, 50, 48, 50, 49, 50, 50, 50, 51, 50, 52, 50, 53, 50, 54, 50, 55, 50, 56, 50, 57, 51, 48, 51, 49, 51, 50, 51, 51, 51, 52, 51, 53, 51, 54, 51, 55, 51, 56, 51, 57, 52, 48, 52, 49, 52, 50, 52, 51, 52, 52, 52, 53, 52, 54, 52, 55, 52, 56, 52, 57, 53, 48, 53, 49, 53, 50, 53, 51, 53, 52, 53, 53, 53, 54, 53, 55, 53, 56, 53, 57, 54, 48, 54, 49, 54, 50, 54, 51, 54, 52, 54, 53, 54, 54, 54, 55, 54, 56, 54, 57, 55, 48, 55, 49, 55, 50, 55, 51, 55, 52, 55, 53, 55, 54, 55, 55, 55, 56, 55, 57, 56, 48, 56, 49, 56, 50, 56, 51, 56, 52, 56, 53, 56, 54, 56, 55, 56, 56, 56, 57, 57, 48, 57, 49, 57, 50, 57, 51, 57, 52, 57, 53, 57, 54, 57, 55, 57, 56, 57, 57]))) (.t 49))) 8 true []), (.mk (gm 51 9) 9 true []), (.mk (gg 52 (.si (.k (.string (ByteArray.mk #[48, 48, 48, 49, 48, 50, 48, 51, 48, 52, 48, 53, 48, 54, 48, 55, 48, 56, 48, 57, 49, 48, 49, 49, 49, 50, 49, 51, 49, 52, 49, 53, 49, 54, 49, 55, 49, 56, 49, 57, 50, 48, 50, 49, 50, 50, 50, 51, 50, 52, 50, 53, 50, 54, 50, 55, 50, 56, 50, 57, 51, 48, 51, 49, 51, 50, 51, 51, 51, 52, 51, 53, 51, 54, 51, 55, 51, 56, 51, 57, 52, 48, 52, 49, 52, 50, 52, 51, 52, 52, 52, 53, 52, 54, 52, 55, 52, 56, 52, 57, 53, 48, 53, 49, 53, 50, 53, 51, 53, 52, 53, 53, 53, 54, 53, 55, 53, 56, 53, 57, 54, 48, 54, 49, 54, 50, 54, 51, 54, 52, 54, 53, 54, 54, 54, 55, 54, 56, 54, 57, 55, 48, 55, 49, 55, 50, 55, 51, 55, 52, 55, 53, 55, 54, 55, 55, 55, 56, 55, 57, 56, 48, 56, 49, 56, 50, 56, 51, 56, 52, 56, 53, 56, 54, 56, 55, 56, 56, 56, 57, 57, 48, 57, 49, 57, 50, 57, 51, 57, 52, 57, 53, 57, 54, 57, 55, 57, 56, 57, 57]))) (.t 51))) 10 true []), (.mk (gg 53 (.ia (.t 42) (.t 44) 1)) 11 true []), (.mk (G.mk none none (.st (.t 53) (.t 50) 1)) 12 false []), (.mk (gg 54 (.ia (.t 45) (.t 47) 1)) 13 true []), (.mk (G.mk none none (.st (.t 54) (.t 52) 1)) 14 false [])]) (.seq (.drw [(.mk (gm 55 0) 0 true []), (.mk (gm 56 4) 1 true []), (.mk (gg 57 (.bin .sub (.t 56) (xk .i64 3))) 2 true []), (.mk (gm 58 0) 3 true []), (.mk (gm 59 4) 4 true []), (.mk (gg 60 (.bin .sub (.t 59) (xk .i64 4))) 5 true []), (.mk (gm 61 8) 6 true []), (.mk (gg 62 (.bin .add (.t 61) (xk .u32 1))) 7 true []), (.mk (gg 63 (.si (.k (.string (ByteArray.mk #[48, 48, 48, 49, 48, 50, 48, 51, 48, 52, 48, 53, 48, 54, 48, 55, 48, 56, 48, 57, 49, 48, 49, 49, 49, 50, 49, 51, 49, 52, 49, 53, 49, 54, 49, 55, 49, 56, 49, 57, 50, 48, 50, 49, 50, 50, 50, 51, 50, 52, 50, 53, 50, 54, 50, 55, 50, 56, 50, 57, 51, 48, 51, 49, 51, 50, 51, 51, 51, 52, 51, 53, 51, 54, 51, 55, 51, 56, 51, 57, 52, 48, 52, 49, 52, 50, 52, 51, 52, 52, 52, 53, 52, 54, 52, 55, 52, 56, 52, 57, 53, 48, 53, 49, 53, 50, 53, 51, 53, 52, 53, 53, 53, 54, 53, 55, 53, 56, 53, 57, 54, 48, 54, 49, 54, 50, 54, 51, 54, 52, 54, 53, 54, 54, 54, 55, 54, 56, 54, 57, 55, 48, 55, 49, 55, 50, 55, 51, 55, 52, 55, 53, 55, 54, 55, 55, 55, 56, 55, 57, 56, 48, 56, 49, 56, 50, 56, 51, 56, 52, 56, 53, 56, 54, 56, 55, 56, 56, 56, 57, 57, 48, 57, 49, 57, 50, 57, 51, 57, 52, 57, 53, 57, 54, 57, 55, 57, 56, 57, 57]))) (.t 62))) 8 true []), (.mk (gm 64 8) 9 true []), (.mk (gg 65 (.si (.k (.string (ByteArray.mk #[48, 48, 48, 49, 48, 50, 48, 51, 48, 52, 48, 53, 48, 54, 48, 55, 48, 56, 48, 57, 49, 48, 49, 49, 49, 50, 49, 51, 49, 52, 49, 53, 49, 54, 49, 55, 49, 56, 49, 57, 50, 48, 50, 49, 50, 50, 50, 51, 50, 52, 50, 53, 50, 54, 50, 55, 50, 56, 50, 57, 51, 48, 51, 49, 51, 50, 51, 51, 51, 52, 51, 53, 51, 54, 51, 55, 51, 56, 51, 57, 52, 48, 52, 49, 52, 50, 52, 51, 52, 52, 52, 53, 52, 54, 52, 55, 52, 56, 52, 57, 53, 48, 53, 49, 53, 50, 53, 51, 53, 52, 53, 53, 53, 54, 53, 55, 53, 56, 53, 57, 54, 48, 54, 49, 54, 50, 54, 51, 54, 52, 54, 53, 54, 54, 54, 55, 54, 56, 54, 57, 55, 48, 55, 49, 55, 50, 55, 51, 55, 52, 55, 53, 55, 54, 55, 55, 55, 56, 55, 57, 56, 48, 56, 49, 56, 50, 56, 51, 56, 52, 56, 53, 56, 54, 56, 55, 56, 56, 56, 57, 57, 48, 57, 49, 57, 50, 57, 51, 57, 52, 57, 53, 57, 54, 57, 55, 57, 56, 57, 57]))) (.t 64))) 10 true []), (.mk (gg 66 (.ia (.t 55) (.t 57) 1)) 11 true []), (.mk (G.mk none none (.st (.t 66) (.t 63) 1)) 12 false []), (.mk (gg 67 (.ia (.t 58) (.t 60) 1)) 13 true []), (.mk (G.mk none none (.st (.t 67) (.t 65) 1)) 14 false [])]) (.seq (.drw [(.mk (gm 68 0) 0 true []), (.mk (gm 69 4) 1 true []), (.mk (gg 70 (.bin .sub (.t 69) (xk .i64 5))) 2 true []), (.mk (gm 71 0) 3 true []), (.mk (gm 72 4) 4 true []), (.mk (gg 73 (.bin .sub (.t 72) (xk .i64 6))) 5 true []), (.mk (gm 74 11) 6 true []), (.mk (gg 75 (.bin .add (.t 74) (xk .u32 1))) 7 true []), (.mk (gg 76 (.si (.k (.string (ByteArray.mk #[48, 48, 48, 49, 48, 50, 48, 51, 48, 52, 48, 53, 48, 54, 48, 55, 48, 56, 48, 57, 49, 48, 49, 49, 49, 50, 49, 51, 49, 52, 49, 53, 49, 54, 49, 55, 49, 56, 49, 57, 50, 48, 50, 49, 50, 50, 50, 51, 50, 52, 50, 53, 50, 54, 50, 55, 50, 56, 50, 57, 51, 48, 51, 49, 51, 50, 51, 51, 51, 52, 51, 53, 51, 54, 51, 55, 51, 56, 51, 57, 52, 48, 52, 49, 52, 50, 52, 51, 52, 52, 52, 53, 52, 54, 52, 55, 52, 56, 52, 57, 53, 48, 53, 49, 53, 50, 53, 51, 53, 52, 53, 53, 53, 54, 53, 55, 53, 56, 53, 57, 54, 48, 54, 49, 54, 50, 54, 51, 54, 52, 54, 53, 54, 54, 54, 55, 54, 56, 54, 57, 55, 48, 55, 49, 55, 50, 55, 51, 55, 52, 55, 53, 55, 54, 55, 55, 55, 56, 55, 57, 56, 48, 56, 49, 56, 50, 56, 51, 56, 52, 56, 53, 56, 54, 56, 55, 56, 56, 56, 57, 57, 48, 57, 49, 57, 50, 57, 51, 57, 52, 57, 53, 57, 54, 57, 55, 57, 56, 57, 57]))) (.t 75))) 8 true []), (.mk (gm 77 11) 9 true []), (.mk (gg 78 (.si (.k (.string (ByteArray.mk #[48, 48, 48, 49, 48, 50, 48, 51, 48, 52, 48, 53, 48, 54, 48, 55, 48, 56, 48, 57, 49, 48, 49, 49, 49, 50, 49, 51, 49, 52, 49, 53, 49, 54, 49, 55, 49, 56, 49, 57, 50, 48, 50, 49, 50, 50, 50, 51, 50, 52, 50, 53, 50, 54, 50, 55, 50, 56, 50, 57, 51, 48, 51, 49, 51, 50, 51, 51, 51, 52, 51, 53, 51, 54, 51, 55, 51, 56, 51, 57, 52, 48, 52, 49, 52, 50, 52, 51, 52, 52, 52, 53, 52, 54, 52, 55, 52, 56, 52, 57, 53, 48, 53, 49, 53, 50, 53, 51, 53, 52, 53, 53, 53, 54, 53, 55, 53, 56, 53, 57, 54, 48, 54, 49, 54, 50, 54, 51, 54, 52, 54, 53, 54, 54, 54, 55, 54, 56, 54, 57, 55, 48, 55, 49, 55, 50, 55, 51, 55, 52, 55, 53, 55, 54, 55, 55, 55, 56, 55, 57, 56, 48, 56, 49, 56, 50, 56, 51, 56, 52, 56, 53, 56, 54, 56, 55, 56, 56, 56, 57, 57, 48, 57, 49, 57, 50, 57, 51, 57, 52, 57, 53, 57, 54, 57, 55, 57, 56, 57, 57]))) (.t 77))) 10 true []), (.mk (gg 79 (.ia (.t 68) (.t 70) 1)) 11 true []), (.mk (G.mk none none (.st (.t 79) (.t 76) 1)) 12 false []), (.mk (gg 80 (.ia (.t 71) (.t 73) 1)) 13 true []), (.mk (G.mk none none (.st (.t 80) (.t 78) 1)) 14 false [])]) (.seq (.drw [(.mk (gm 81 0) 0 true []), (.mk (gm 82 4) 1 true []), (.mk (gg 83 (.bin .sub (.t 82) (xk .i64 7))) 2 true []), (.mk (gm 84 0) 3 true []), (.mk (gm 85 4) 4 true []), (.mk (gg 86 (.bin .sub (.t 85) (xk .i64 8))) 5 true []), (.mk (gm 87 10) 6 true []), (.mk (gg 88 (.bin .add (.t 87) (xk .u32 1))) 7 true []), (.mk (gg 89 (.si (.k (.string (ByteArray.mk #[48, 48, 48, 49, 48, 50, 48, 51, 48, 52, 48, 53, 48, 54, 48, 55, 48, 56, 48, 57, 49, 48, 49, 49, 49, 50, 49, 51, 49, 52, 49, 53, 49, 54, 49, 55, 49, 56, 49, 57, 50, 48, 50, 49, 50, 50, 50, 51, 50, 52, 50, 53, 50, 54, 50, 55, 50, 56, 50, 57, 51, 48, 51, 49, 51, 50, 51, 51, 51, 52, 51, 53, 51, 54, 51, 55, 51, 56, 51, 57, 52, 48, 52, 49, 52, 50, 52, 51, 52, 52, 52, 53, 52, 54, 52, 55, 52, 56, 52, 57, 53, 48, 53, 49, 53, 50, 53, 51, 53, 52, 53, 53, 53, 54, 53, 55, 53, 56, 53, 57, 54, 48, 54, 49, 54, 50, 54, 51, 54, 52, 54, 53, 54, 54, 54, 55, 54, 56, 54, 57, 55, 48, 55, 49, 55, 50, 55, 51, 55, 52, 55, 53, 55, 54, 55, 55, 55, 56, 55, 57, 56, 48, 56, 49, 56, 50, 56, 51, 56, 52, 56, 53, 56, 54, 56, 55, 56, 56, 56, 57, 57, 48, 57, 49, 57, 50, 57, 51, 57, 52, 57, 53, 57, 54, 57, 55, 57, 56, 57, 57]))) (.t 88))) 8 true []), (.mk (gm 90 10) 9 true []), (.mk (gg 91 (.si (.k (.string (ByteArray.mk #[48, 48, 48, 49, 48, 50, 48, 51, 48, 52, 48, 53, 48, 54, 48, 55, 48, 56, 48, 57, 49, 48, 49, 49, 49, 50, 49, 51, 49, 52, 49, 53, 49, 54, 49, 55, 49, 56, 49, 57, 50, 48, 50, 49, 50, 50, 50, 51, 50, 52, 50, 53, 50, 54, 50, 55, 50, 56, 50, 57, 51, 48, 51, 49, 51, 50, 51, 51, 51, 52, 51, 53, 51, 54, 51, 55, 51, 56, 51, 57, 52, 48, 52, 49, 52, 50, 52, 51, 52, 52, 52, 53, 52, 54, 52, 55, 52, 56, 52, 57, 53, 48, 53, 49, 53, 50, 53, 51, 53, 52, 53, 53, 53, 54, 53, 55, 53, 56, 53, 57, 54, 48, 54, 49, 54, 50, 54, 51, 54, 52, 54, 53, 54, 54, 54, 55, 54, 56, 54, 57, 55, 48, 55, 49, 55, 50, 55, 51, 55, 52, 55, 53, 55, 54, 55, 55, 55, 56, 55, 57, 56, 48, 56, 49, 56, 50, 56, 51, 56, 52, 56, 53, 56, 54, 56, 55, 56, 56, 56, 57, 57, 48, 57, 49, 57, 50, 57, 51, 57, 52, 57, 53, 57, 54, 57, 55, 57, 56, 57, 57]))) (.t 90))) 10 true []), (.mk (gg 92 (.ia (.t 81) (.t 83) 1)) 11 true []), (.mk (G.mk none none (.st (.t 92) (.t 89) 1)) 12 false []), (.mk (gg 93 (.ia (.t 84) (.t 86) 1)) 13 true []), (.mk (G.mk none none (.st (.t 93) (.t 91) 1)) 14 false [])]) (.reg [gm 94 4, gg 95 (.bin .sub (.t 94) (xk .i64 8)), gm 4 95])))))))))))))) (sr [gm 96 1, gg 97 (.cvi .u32 (.t 96)), gm 12 97] (.cut (sr [gm 98 4, gg 99 (.bin .geq (.t 98) (xk .i64 4))] (.cond (.t 99) (sr [gm 100 12, gg 101 (.bik .rem .u32 (.t 100) 10000), gm 13 101] (sr [gm 102 12, gg 103 (.bik .quo .u32 (.t 102) 10000), gm 12 103] (sr [gm 104 13, gg 105 (.bik .quo .u32 (.t 104) 100), gg 106 (.bin .mul (.t 105) (xk .u32 2)), gm 107 13, gg 108 (.bik .rem .u32 (.t 107) 100), gg 109 (.bin .mul (.t 108) (xk .u32 2)), gm 14 106, gm 15 109] (.seq (.drw [(.mk (gm 110 0) 0 true []), (.mk (gm 111 4) 1 true []), (.mk (gg 112 (.bin .sub (.t 111) (xk .i64 1))) 2 true []), (.mk (gm 113 0) 3 true []), (.mk (gm 114 4) 4 true []), (.mk (gg 115 (.bin .sub (.t 114) (xk .i64 2))) 5 true []), (.mk (gm 116 15) 6 true []), (.mk (gg 117 (.bin .add (.t 116) (xk .u32 1))) 7 true []), (.mk (gg 118 (.si (.k (.string (ByteArray.mk #[48, 48, 48, 49, 48, 50, 48, 51, 48, 52, 48, 53, 48, 54, 48, 55, 48, 56, 48, 57, 49, 48, 49, 49, 49, 50, 49, 51, 49, 52, 49, 53, 49, 54, 49, 55, 49, 56, 49, 57, 50, 48, 50, 49, 50, 50, 50, 51, 50, 52, 50, 53, 50, 54, 50, 55, 50, 56, 50, 57, 51, 48, 51, 49, 51, 50, 51, 51, 51, 52, 51, 53, 51, 54, 51, 55, 51, 56, 51, 57, 52, 48, 52, 49, 52, 50, 52, 51, 52, 52, 52, 53, 52, 54, 52, 55, 52, 56, 52, 57, 53, 48, 53, 49, 53, 50, 53, 51, 53, 52, 53, 53, 53, 54, 53, 55, 53, 56, 53, 57, 54, 48, 54, 49, 54, 50, 54, 51, 54, 52, 54, 53, 54, 54, 54, 55, 54, 56, 54, 57, 55, 48, 55, 49, 55, 50, 55, 51, 55, 52, 55, 53, 55, 54, 55, 55, 55, 56, 55, 57, 56, 48, 56, 49, 56, 50, 56, 51, 56, 52, 56, 53, 56, 54, 56, 55, 56, 56, 56, 57, 57, 48, 57, 49, 57, 50, 57, 51, 57, 52, 57, 53, 57, 54, 57, 55, 57, 56, 57, 57]))) (.t 117))) 8 true []), (.mk (gm 119 15) 9 true []), (.mk (gg 120 (.si (.k (.string (ByteArray.mk #[48, 48, 48, 49, 48, 50, 48, 51, 48, 52, 48, 53, 48, 54, 48, 55, 48, 56, 48, 57, 49, 48, 49, 49, 49, 50, 49, 51, 49, 52, 49, 53, 49, 54, 49, 55, 49, 56, 49, 57, 50, 48, 50, 49, 50, 50, 50, 51, 50, 52, 50, 53, 50, 54, 50, 55, 50, 56, 50, 57, 51, 48, 51, 49, 51, 50, 51, 51, 51, 52, 51, 53, 51, 54, 51, 55, 51, 56, 51, 57, 52, 48, 52, 49, 52, 50, 52, 51, 52, 52, 52, 53, 52, 54, 52, 55, 52, 56, 52, 57, 53, 48, 53, 49, 53, 50, 53, 51, 53, 52, 53, 53, 53, 54, 53, 55, 53, 56, 53, 57, 54, 48, 54, 49, 54, 50, 54, 51, 54, 52, 54, 53, 54, 54, 54, 55, 54, 56, 54, 57, 55, 48, 55, 49, 55, 50, 55, 51, 55, 52, 55, 53, 55, 54, 55, 55, 55, 56, 55, 57, 56, 48, 56, 49, 56, 50, 56, 51, 56, 52, 56, 53, 56, 54, 56, 55, 56, 56, 56, 57, 57, 48, 57, 49, 57, 50, 57, 51, 57, 52, 57, 53, 57, 54, 57, 55, 57, 56, 57, 57]))) (.t 119))) 10 true []), (.mk (gg 121 (.ia (.t 110) (.t 112) 1)) 11 true []), (.mk (G.mk none none (.st (.t 121) (.t 118) 1)) 12 false []), (.mk (gg 122 (.ia (.t 113) (.t 115) 1)) 13 true []), (.mk (G.mk none none (.st (.t 122) (.t 120) 1)) 14 false [])]) (.seq (.drw [(.mk (gm 123 0) 0 true []), (.mk (gm 124 4) 1 true []), (.mk (gg 125 (.bin .sub (.t 124) (xk .i64 3))) 2 true []), (.mk (gm 126 0) 3 true []), (.mk (gm 127 4) 4 true []), (.mk (gg 128 (.bin .sub (.t 127) (xk .i64 4))) 5 true []), (.mk (gm 129 14) 6 true []), (.mk (gg 130 (.bin .add (.t 129) (xk .u32 1))) 7 true []), (.mk (gg 131 (.si (.k (.string (ByteArray.mk #[48, 48, 48, 49, 48, 50, 48, 51, 48, 52, 48, 53, 48, 54, 48, 55, 48, 56, 48, 57, 49, 48, 49, 49, 49, 50, 49, 51, 49, 52, 49, 53, 49, 54, 49, 55, 49, 56, 49, 57, 50, 48, 50, 49, 50, 50, 50, 51, 50, 52, 50, 53, 50, 54, 50, 55, 50, 56, 50, 57, 51, 48, 51, 49, 51, 50, 51, 51, 51, 52, 51, 53, 51, 54, 51, 55, 51, 56, 51, 57, 52, 48, 52, 49, 52, 50, 52, 51, 52, 52, 52, 53, 52, 54, 52, 55, 52, 56, 52, 57, 53, 48, 53, 49, 53, 50, 53, 51, 53, 52, 53, 53, 53, 54, 53, 55, 53, 56, 53, 57, 54, 48, 54, 49, 54, 50, 54, 51, 54, 52, 54, 53, 54, 54, 54, 55, 54, 56, 54, 57, 55, 48, 55, 49, 55, 50, 55, 51, 55, 52, 55, 53, 55, 54, 55, 55, 55, 56, 55, 57, 56, 48, 56, 49, 56, 50, 56, 51, 56, 52, 56, 53, 56, 54, 56, 55, 56, 56, 56, 57, 57, 48, 57, 49, 57, 50, 57, 51, 57, 52, 57, 53, 57, 54, 57, 55, 57, 56, 57, 57]))) (.t 130))) 8 true []), (.mk (gm 132 14) 9 true []), (.mk (gg 133 (.si (.k (.string (ByteArray.mk #[48, 48, 48, 49, 48, 50, 48, 51, 48, 52, 48, 53, 48, 54, 48, 55, 48, 56, 48, 57, 49, 48, 49, 49, 49, 50, 49, 51, 49, 52, 49, 53, 49, 54, 49, 55, 49, 56, 49, 57, 50, 48, 50, 49, 50, 50, 50, 51, 50, 52, 50, 53, 50, 54, 50, 55, 50, 56, 50, 57, 51, 48, 51, 49, 51, 50, 51, 51, 51, 52, 51, 53, 51, 54, 51, 55, 51, 56, 51, 57, 52, 48, 52, 49, 52, 50, 52, 51, 52, 52, 52, 53, 52, 54, 52, 55, 52, 56, 52, 57, 53, 48, 53, 49, 53, 50, 53, 51, 53, 52, 53, 53, 53, 54, 53, 55, 53, 56, 53, 57, 54, 48, 54, 49, 54, 50, 54, 51, 54, 52, 54, 53, 54, 54, 54, 55, 54, 56, 54, 57, 55, 48, 55, 49, 55, 50, 55, 51, 55, 52, 55, 53, 55, 54, 55, 55, 55, 56, 55, 57, 56, 48, 56, 49, 56, 50, 56, 51, 56, 52, 56, 53, 56, 54, 56, 55, 56, 56, 56, 57, 57, 48, 57, 49, 57, 50, 57, 51, 57, 52, 57, 53, 57, 54, 57, 55, 57, 56, 57, 57]))) (.t 132))) 10 true []), (.mk (gg 134 (.ia (.t 123) (.t 125) 1)) 11 true []), (.mk (G.mk none none (.st (.t 134) (.t 131) 1)) 12 false []), (.mk (gg 135 (.ia (.t 126) (.t 128) 1)) 13 true []), (.mk (G.mk none none (.st (.t 135) (.t 133) 1)) 14 false [])]) (.reg [gm 136 4, gg 137 (.bin .sub (.t 136) (xk .i64 4)), gm 4 137])))))) .skip)) (.cut (sr [gm 138 4, gg 139 (.bin .geq (.t 138) (xk .i64 2))] (.cond (.t 139) (sr [gm 140 12, gg 141 (.bik .rem .u32 (.t 140) 100), gg 142 (.bin .mul (.t 141) (xk .u32 2)), gm 16 142] (sr [gm 143 12, gg 144 (.bik .quo .u32 (.t 143) 100), gm 12 144] (.seq (.drw [(.mk (gm 145 0) 0 true []), (.mk (gm 146 4) 1 true []), (.mk (gg 147 (.bin .sub (.t 146) (xk .i64 1))) 2 true []), (.mk (gm 148 0) 3 true []), (.mk (gm 149 4) 4 true []), (.mk (gg 150 (.bin .sub (.t 149) (xk .i64 2))) 5 true []), (.mk (gm 151 16) 6 true []), (.mk (gg 152 (.bin .add (.t 151) (xk .u32 1))) 7 true []), (.mk (gg 153 (.si (.k (.string (ByteArray.mk #[48, 48, 48, 49, 48, 50, 48, 51, 48, 52, 48, 53, 48, 54, 48, 55, 48, 56, 48, 57, 49, 48, 49, 49, 49, 50, 49, 51, 49, 52, 49, 53, 49, 54, 49, 55, 49, 56, 49, 57, 50, 48, 50, 49, 50, 50, 50, 51, 50, 52, 50, 53, 50, 54, 50, 55, 50, 56, 50, 57, 51, 48, 51, 49, 51, 50, 51, 51, 51, 52, 51, 53, 51, 54, 51, 55, 51, 56, 51, 57, 52, 48, 52, 49, 52, 50, 52, 51, 52, 52, 52, 53, 52, 54, 52, 55, 52, 56, 52, 57, 53, 48, 53, 49, 53, 50, 53, 51, 53, 52, 53, 53, 53, 54, 53, 55, 53, 56, 53, 57, 54, 48, 54, 49, 54, 50, 54, 51, 54, 52, 54, 53, 54, 54, 54, 55, 54, 56, 54, 57, 55, 48, 55, 49, 55, 50, 55, 51, 55, 52, 55, 53, 55, 54, 55, 55, 55, 56, 55, 57, 56, 48, 56, 49, 56, 50, 56, 51, 56, 52, 56, 53, 56, 54, 56, 55, 56, 56, 56, 57, 57, 48, 57, 49, 57, 50, 57, 51, 57, 52, 57, 53, 57, 54, 57, 55, 57, 56, 57, 57]))) (.t 152))) 8 true []), (.mk (gm 154 16) 9 true []), (.mk (gg 155 (.si (.k (.string (ByteArray.mk #[48, 48, 48, 49, 48, 50, 48, 51, 48, 52, 48, 53, 48, 54, 48, 55, 48, 56, 48, 57, 49, 48, 49, 49, 49, 50, 49, 51, 49, 52, 49, 53, 49, 54, 49, 55, 49, 56, 49, 57, 50, 48, 50, 49, 50, 50, 50, 51, 50, 52, 50, 53, 50, 54, 50, 55, 50, 56, 50, 57, 51, 48, 51, 49, 51, 50, 51, 51, 51, 52, 51, 53, 51, 54, 51, 55, 51, 56, 51, 57, 52, 48, 52, 49, 52, 50, 52, 51, 52, 52, 52, 53, 52, 54, 52, 55, 52, 56, 52, 57, 53, 48, 53, 49, 53, 50, 53, 51, 53, 52, 53, 53, 53, 54, 53, 55, 53, 56, 53, 57, 54, 48, 54, 49, 54, 50, 54, 51, 54, 52, 54, 53, 54, 54, 54, 55, 54, 56, 54, 57, 55, 48, 55, 49, 55, 50, 55, 51, 55, 52, 55, 53, 55, 54, 55, 55, 55, 56, 55, 57, 56, 48, 56, 49, 56, 50, 56, 51, 56, 52, 56, 53, 56, 54, 56, 55, 56, 56, 56, 57, 57, 48, 57, 49, 57, 50, 57, 51, 57, 52, 57, 53, 57, 54, 57, 55, 57, 56, 57, 57]))) (.t 154))) 10 true []), (.mk (gg 156 (.ia (.t 145) (.t 147) 1)) 11 true []), (.mk (G.mk none none (.st (.t 156) (.t 153) 1)) 12 false []), (.mk (gg 157 (.ia (.t 148) (.t 150) 1)) 13 true []), (.mk (G.mk none none (.st (.t 157) (.t 155) 1)) 14 false [])]) (.reg [gm 158 4, gg 159 (.bin .sub (.t 158) (xk .i64 2)), gm 4 159])))) .skip)) (sr [gm 160 4, gg 161 (.bin .gtr (.t 160) (xk .i64 0))] (.cond (.t 161) (.reg [gm 162 0, gm 163 12, gg 164 (.bin .add (xk .u32 48) (.t 163)), gg 165 (.cvi .u8 (.t 164)), gg 166 (.ia (.t 162) (xk .i64 0) 1), (G.mk none none (.st (.t 166) (.t 165) 1))]) .skip))))))) 2 []) := by kernel_rfl
theorem c123_ : compF Tryz.prog 123 = some (.mk (sr [gg 2 (.mov (xk .i64 0))] (sr [gm 3 0, gg 4 (.bin .mul (.t 3) (xk .i64 78913)), gg 5 (.bik .shr .u64 (.t 4) 18), gm 2 5] .ret)) 1 [(.t 2)]) := by kernel_rfl
theorem c124_ : compF Tryz.prog 124 = some (.mk (sr [gg 2 (.mov (xk .i64 0))] (.cut (sr [gm 3 0, gg 4 (.bin .geq (.t 3) (xk .u64 4294967296))] (.cond (.t 4) (sr [gm 5 0, gg 6 (.bik .shr .u64 (.t 5) 32), gm 0 6] (.reg [gg 2 (.mov (xk .i64 32))])) .skip)) (.cut (sr [gm 7 0, gg 8 (.bin .geq (.t 7) (xk .u64 65536))] (.cond (.t 8) (sr [gm 9 0, gg 10 (.bik .shr .u64 (.t 9) 16), gm 0 10] (.reg [gm 11 2, gg 12 (.bin .add (.t 11) (xk .i64 16)), gm 2 12])) .skip)) (.cut (sr [gm 13 0, gg 14 (.bin .geq (.t 13) (xk .u64 256))] (.cond (.t 14) (sr [gm 15 0, gg 16 (.bik .shr .u64 (.t 15) 8), gm 0 16] (.reg [gm 17 2, gg 18 (.bin .add (.t 17) (xk .i64 8)), gm 2 18])) .skip)) (sr [gm 19 2, gm 20 0, gg 21 (.cvi .u8 (.t 20)), gg 22 (.si (.k (.string (ByteArray.mk #[0, 1, 2, 2, 3, 3, 3, 3, 4, 4, 4, 4, 4, 4, 4, 4, 5, 5, 5, 5, 5, 5, 5, 5, 5, 5, 5, 5, 5, 5, 5, 5, 6, 6, 6, 6, 6, 6, 6, 6, 6, 6, 6, 6, 6, 6, 6, 6, 6, 6, 6, 6, 6, 6, 6, 6, 6, 6, 6, 6, 6, 6, 6, 6, 7, 7, 7, 7, 7, 7, 7, 7, 7, 7, 7, 7, 7, 7, 7, 7, 7, 7, 7, 7, 7, 7, 7, 7, 7, 7, 7, 7, 7, 7, 7, 7, 7, 7, 7, 7, 7, 7, 7, 7, 7, 7, 7, 7, 7, 7, 7, 7, 7, 7, 7, 7, 7, 7, 7, 7, 7, 7, 7, 7, 7, 7, 7, 7, 8, 8, 8, 8, 8, 8, 8, 8, 8, 8, 8, 8, 8, 8, 8, 8, 8, 8, 8, 8, 8, 8, 8, 8, 8, 8, 8, 8, 8, 8, 8, 8, 8, 8, 8, 8, 8, 8, 8, 8, 8, 8, 8, 8, 8, 8, 8, 8, 8, 8, 8, 8, 8, 8, 8, 8, 8, 8, 8, 8, 8, 8, 8, 8, 8, 8, 8, 8, 8, 8, 8, 8, 8, 8, 8, 8, 8, 8, 8, 8, 8, 8, 8, 8, 8, 8, 8, 8, 8, 8, 8, 8, 8, 8, 8, 8, 8, 8, 8, 8, 8, 8, 8, 8, 8, 8, 8, 8, 8, 8, 8, 8, 8, 8, 8, 8, 8, 8, 8, 8, 8, 8, 8, 8, 8, 8, 8, 8]))) (.t 21)), gg 23 (.cvi .i64 (.t 22)), gg 24 (.bin .add (.t 19) (.t 23)), gm 2 24] .ret))))) 1 [(.t 2)]) := by kernel_rfl
theorem c125_ : compF Tryz.prog 125 = some (.mk (sr [gg 2 (.mov (xk .i64 0))] (.cut (sr [gm 3 0] (.cond (.t 3) (sr [gg 2 (.mov (xk .i64 1))] .ret) .skip)) (sr [gg 2 (.mov (xk .i64 0))] .ret))) 1 [(.t 2)]) := by kernel_rfl
end Go.Proofs.YtokkphocaloelaaGreatDoor

end
section
namespace Go.Proofs.YtokkphocaloelaaGreatDoor
open Go Go.Vc
set_option maxRecDepth 100000
set_option maxHeartbeats 8000000

def digs (n u : Nat) : List Int := (List.range n).map fun i => ((48 + u / 10 ^ (n - 1 - i) % 10 : Nat) : Int)
theorem digs_len (n u : Nat) : (digs n u).length = n := by unfold digs; rw [List.length_map, List.length_range]
theorem digs_get {n u i : Nat} (h : i < n) : (digs n u)[i]? = some ((48 + u / 10 ^ (n - 1 - i) % 10 : Nat) : Int) := by
 unfold digs
 rw [List.getElem?_map, List.getElem?_range h]
 rfl
def part (xs D : List Int) (o m : Nat) : List Int := xs.take (o + m) ++ (D.drop m ++ xs.drop (o + D.length))
theorem part_all (xs D : List Int) (o : Nat) : part xs D o D.length = xs := by
 unfold part
 rw [List.drop_length, List.nil_append, List.take_append_drop]
theorem part_len (xs D : List Int) (o m : Nat) (h : o + D.length ≤ xs.length) (hm : m ≤ D.length) : (part xs D o m).length = xs.length := by
 unfold part
 rw [List.length_append, List.length_append, List.length_take, List.length_drop, List.length_drop]
 omega
theorem part_set {xs D : List Int} {o m : Nat} {y : Int} (h : o + D.length ≤ xs.length) (hm : m < D.length) (hy : D[m]? = some y) : (part xs D o (m + 1)).set (o + m) y = part xs D o m := by
 unfold part
 apply List.ext_getElem?
 intro i
 have hl : (xs.take (o + (m + 1))).length = o + (m + 1) := by rw [List.length_take]; omega
 have hl2 : (xs.take (o + m)).length = o + m := by rw [List.length_take]; omega
 rw [List.getElem?_set]
 split
 · rename_i c
   subst c
   rw [if_pos (by rw [List.length_append, hl]; omega), List.getElem?_append_right (by omega), hl2, Nat.sub_self, List.getElem?_append_left (by rw [List.length_drop]; omega), List.getElem?_drop, Nat.add_zero, hy]
 · rcases Nat.lt_or_ge i (o + m) with c | c
   · rw [List.getElem?_append_left (by omega), List.getElem?_append_left (by omega), List.getElem?_take, List.getElem?_take, if_pos (by omega), if_pos c]
   · rw [List.getElem?_append_right (l₁ := xs.take (o + (m + 1))) (by omega), List.getElem?_append_right (l₁ := xs.take (o + m)) (by omega), hl, hl2]
     rw [show D.drop m = y :: D.drop (m + 1) by rw [List.drop_eq_getElem_cons hm]; congr 1; rw [List.getElem?_eq_getElem hm] at hy; exact Option.some.inj hy]
     rw [show i - (o + m) = (i - (o + (m + 1))) + 1 by omega, List.cons_append, List.getElem?_cons_succ]
theorem part_get {xs D : List Int} {o m j : Nat} (h : o + D.length ≤ xs.length) (hj : o + j < xs.length) (hm : m ≤ D.length) : ∃ x, (part xs D o m)[o + j]? = some x :=
 ⟨_, List.getElem?_eq_getElem (by rw [part_len xs D o m h hm]; exact hj)⟩
def smalls : ByteArray := ByteArray.mk #[48, 48, 48, 49, 48, 50, 48, 51, 48, 52, 48, 53, 48, 54, 48, 55, 48, 56, 48, 57, 49, 48, 49, 49, 49, 50, 49, 51, 49, 52, 49, 53, 49, 54, 49, 55, 49, 56, 49, 57, 50, 48, 50, 49, 50, 50, 50, 51, 50, 52, 50, 53, 50, 54, 50, 55, 50, 56, 50, 57, 51, 48, 51, 49, 51, 50, 51, 51, 51, 52, 51, 53, 51, 54, 51, 55, 51, 56, 51, 57, 52, 48, 52, 49, 52, 50, 52, 51, 52, 52, 52, 53, 52, 54, 52, 55, 52, 56, 52, 57, 53, 48, 53, 49, 53, 50, 53, 51, 53, 52, 53, 53, 53, 54, 53, 55, 53, 56, 53, 57, 54, 48, 54, 49, 54, 50, 54, 51, 54, 52, 54, 53, 54, 54, 54, 55, 54, 56, 54, 57, 55, 48, 55, 49, 55, 50, 55, 51, 55, 52, 55, 53, 55, 54, 55, 55, 55, 56, 55, 57, 56, 48, 56, 49, 56, 50, 56, 51, 56, 52, 56, 53, 56, 54, 56, 55, 56, 56, 56, 57, 57, 48, 57, 49, 57, 50, 57, 51, 57, 52, 57, 53, 57, 54, 57, 55, 57, 56, 57, 57]
theorem smalls_hi : ∀ k, k < 100 → smalls[k * 2]? = some (UInt8.ofNat (48 + k / 10)) := by decide +kernel
theorem smalls_lo : ∀ k, k < 100 → smalls[k * 2 + 1]? = some (UInt8.ofNat (48 + k % 10)) := by decide +kernel
theorem si_hi {k : Nat} (h : k < 100) : (if (0 : Int) ≤ ((k * 2 : Nat) : Int) then smalls[((k * 2 : Nat) : Int).toNat]? else none) = some (UInt8.ofNat (48 + k / 10)) := by
 rw [if_pos (by omega), Int.toNat_natCast]
 exact smalls_hi k h
theorem si_lo {k : Nat} (h : k < 100) : (if (0 : Int) ≤ ((k * 2 + 1 : Nat) : Int) then smalls[((k * 2 + 1 : Nat) : Int).toNat]? else none) = some (UInt8.ofNat (48 + k % 10)) := by
 rw [if_pos (by omega), Int.toNat_natCast]
 exact smalls_lo k h
theorem u8_nat {n : Nat} (h : n < 256) : (((UInt8.ofNat n).toNat : Nat) : Int) = (n : Int) := by
 rw [UInt8.toNat_ofNat', Nat.mod_eq_of_lt h]
theorem len64W (w0 : World) (H : List Blk) {n : Nat} (hn : n < 18446744073709551616) : CallsA Tryz.prog w0 124 [.c (.val (.int .u64 n))] H fun r H' => r = i64 (len n) ∧ H' = H := by
 refine CallsA_frame rfl rfl ?_ H
 refine callsA_of_ev c124_ ?_
 conv => whnf
 refine Or.inr ⟨{p : Nat × Nat // p.1 < 4294967296 ∧ len n = p.2 + len p.1 ∧ p.2 ≤ 32}, fun p => ⟨[(0, .o (.c (.val (.int .u64 (p.1.1 : Nat))))), (2, .o (.c (.val (.int .i64 (p.1.2 : Nat)))))], []⟩, ?_, ?_⟩
 · conv => whnf
   refine ⟨fun h1 => ?_, fun h1 => ?_⟩
   · have h1 : 4294967296 ≤ n := ge_t h1
     conv => whnf
     simp (disch := omega) only [nshr64]
     refine ⟨⟨(n / 2 ^ 32, 32), by simp only; omega, ?_, by simp⟩, embNil ⟨rfl, rfl, trivial⟩⟩
     rw [len_div (j := 32) h1]
     simp only
     omega
   · have h1 : n < 4294967296 := ge_f h1
     conv => whnf
     exact ⟨⟨(n, 0), h1, by simp, by simp⟩, embNil ⟨rfl, rfl, trivial⟩⟩
 rintro ⟨⟨x, b⟩, hx, hl, hb⟩
 simp only at hx hl hb
 conv => whnf
 refine Or.inr ⟨{p : Nat × Nat // p.1 < 65536 ∧ len n = p.2 + len p.1 ∧ p.2 ≤ 48}, fun p => ⟨[(0, .o (.c (.val (.int .u64 (p.1.1 : Nat))))), (2, .o (.c (.val (.int .i64 (p.1.2 : Nat)))))], []⟩, ?_, ?_⟩
 · conv => whnf
   refine ⟨fun h1 => ?_, fun h1 => ?_⟩
   · have h1 : 65536 ≤ x := ge_t h1
     conv => whnf
     refine ⟨⟨(x / 2 ^ 16, b + 16), by simp only; omega, ?_, by simp only; omega⟩, embNil ⟨?_, ?_, trivial⟩⟩
     · rw [hl, len_div (j := 16) h1]
       simp only
       omega
     · refine eq_u64 ?_
       rw [nshr64 _ _ (by omega)]
     · refine eq_i64 ?_
       show IntKind.i64.wrap ((b : Int) + ((16 : Nat) : Int)) = _
       rw [nadd, nwrapi (by omega)]
   · have h1 : x < 65536 := ge_f h1
     conv => whnf
     exact ⟨⟨(x, b), h1, hl, by simp only; omega⟩, embNil ⟨rfl, rfl, trivial⟩⟩
 clear hb hl hx x b
 rintro ⟨⟨x, b⟩, hx, hl, hb⟩
 simp only at hx hl hb
 conv => whnf
 refine Or.inr ⟨{p : Nat × Nat // p.1 < 256 ∧ len n = p.2 + len p.1 ∧ p.2 ≤ 56}, fun p => ⟨[(0, .o (.c (.val (.int .u64 (p.1.1 : Nat))))), (2, .o (.c (.val (.int .i64 (p.1.2 : Nat)))))], []⟩, ?_, ?_⟩
 · conv => whnf
   refine ⟨fun h1 => ?_, fun h1 => ?_⟩
   · have h1 : 256 ≤ x := ge_t h1
     conv => whnf
     refine ⟨⟨(x / 2 ^ 8, b + 8), by simp only; omega, ?_, by simp only; omega⟩, embNil ⟨?_, ?_, trivial⟩⟩
     · rw [hl, len_div (j := 8) h1]
       simp only
       omega
     · refine eq_u64 ?_
       rw [nshr64 _ _ (by omega)]
     · refine eq_i64 ?_
       show IntKind.i64.wrap ((b : Int) + ((8 : Nat) : Int)) = _
       rw [nadd, nwrapi (by omega)]
   · have h1 : x < 256 := ge_f h1
     conv => whnf
     exact ⟨⟨(x, b), h1, hl, by simp only; omega⟩, embNil ⟨rfl, rfl, trivial⟩⟩
 clear hb hl hx x b
 rintro ⟨⟨x, b⟩, hx, hl, hb⟩
 simp only at hx hl hb
 have hl8 := len_le (n := x) (k := 8) hx
 conv => whnf
 refine ⟨UInt8.ofNat (len x), ?_, ?_⟩
 · show (if 0 ≤ IntKind.u8.wrap (x : Int) then lens[(IntKind.u8.wrap (x : Int)).toNat]? else none) = _
   rw [nwrap8 hx, if_pos (by omega), Int.toNat_natCast]
   exact lens_get x hx
 · conv => whnf
   refine Or.inl ⟨i64_of ?_, rfl⟩
   have e1 : (UInt8.ofNat (len x)).toNat = len x := by
     rw [UInt8.toNat_ofNat']
     omega
   show IntKind.i64.wrap ((b : Int) + IntKind.i64.wrap (((UInt8.ofNat (len x)).toNat : Nat) : Int)) = _
   rw [e1, nwrapi (by omega), nadd, nwrapi (by omega), hl]
theorem log10W (w0 : World) (H : List Blk) {n : Nat} (hn : n ≤ 64) : CallsA Tryz.prog w0 123 [.c (.val (.int .i64 n))] H fun r H' => r = i64 ((n * 78913 / 2 ^ 18 : Nat) : Int) ∧ H' = H := by
 refine CallsA_frame rfl rfl ?_ H
 refine callsA_of_ev c123_ ?_
 conv => whnf
 refine Or.inl ⟨i64_of ?_, rfl⟩
 show ((IntKind.i64.wrap ((n : Int) * ((78913 : Nat) : Int))).fdiv ((2 : Int) ^ min 18 IntKind.i64.bits)) = _
 rw [nmul, nwrapi (by omega), nshri _ _ (by omega)]
theorem bool2W (w0 : World) (H : List Blk) (b : Bool) : CallsA Tryz.prog w0 125 [.c (.val (.bool b))] H fun r H' => r = i64 ((if b = true then 1 else 0 : Nat) : Int) ∧ H' = H := by
 refine CallsA_frame rfl rfl ?_ H
 refine callsA_of_ev c125_ ?_
 conv => whnf
 refine Or.inl ?_
 conv => whnf
 refine ⟨fun g => ?_, fun g => ?_⟩
 · subst g
   conv => whnf
   exact Or.inl ⟨rfl, rfl⟩
 · subst g
   conv => whnf
   exact Or.inl ⟨rfl, rfl⟩
def ndig (u : Nat) : Nat := len u * 78913 / 2 ^ 18 + if 10 ^ (len u * 78913 / 2 ^ 18) ≤ u then 1 else 0
theorem log_fact : ∀ l, l ≤ 64 → 2 ^ l ≤ 10 ^ (l * 78913 / 2 ^ 18 + 1) ∧ l * 78913 / 2 ^ 18 < 20 := by decide +kernel
theorem ndig_le {u : Nat} (h : u < 18446744073709551616) : ndig u ≤ 20 := by
 have := (log_fact (len u) (len_le (k := 64) h)).2
 unfold ndig
 split <;> omega
theorem lt_ndig {u : Nat} (h : u < 18446744073709551616) : u < 10 ^ ndig u := by
 have h1 := (log_fact (len u) (len_le (k := 64) h)).1
 unfold ndig
 split
 · refine Nat.lt_of_lt_of_le ?_ h1
   by_cases h0 : u = 0
   · rw [h0]
     exact Nat.two_pow_pos _
   · obtain ⟨k, e1, _, e3⟩ := len_spec h0
     rw [e1]
     exact e3
 · rw [Nat.add_zero]
   omega
theorem ndig_pos {u : Nat} (h : 1 ≤ u) (h2 : u < 18446744073709551616) : 1 ≤ ndig u := by
 have := lt_ndig h2
 rcases Nat.eq_zero_or_pos (ndig u) with c | c
 · rw [c] at this
   omega
 · exact c
def pows (w0 : World) : Prop := ∀ i, i < 20 → w0.cell? ((Addr.mk 6 0 none).add (i * 1)) = some (.int .u64 ((10 ^ i : Nat) : Int))
theorem numDigitsW (w0 : World) (H : List Blk) (hp : pows w0) {u : Nat} (hu : u < 18446744073709551616) : CallsA Tryz.prog w0 99 [.c (.val (.int .u64 u))] H fun r H' => r = i64 (ndig u) ∧ H' = H := by
 refine CallsA_frame rfl rfl ?_ H
 have hl := len_le (n := u) (k := 64) hu
 have hf := (log_fact (len u) hl).2
 refine callsA_of_ev c99_ ?_
 conv => whnf
 refine (len64W w0 [] hu).mono ?_
 rintro _ _ ⟨rfl, rfl⟩
 conv => whnf
 refine (log10W w0 [] hl).mono ?_
 rintro _ _ ⟨rfl, rfl⟩
 obtain ⟨t, ht⟩ : ∃ t, t = len u * 78913 / 2 ^ 18 := ⟨_, rfl⟩
 rw [← ht] at hf ⊢
 conv => whnf
 refine ⟨by omega, ?_⟩
 conv => whnf
 refine ⟨_, hp t hf, rfl, ?_⟩
 conv => whnf
 refine (bool2W w0 [] _).mono ?_
 rintro _ _ ⟨rfl, rfl⟩
 conv => whnf
 refine Or.inl ⟨i64_of ?_, rfl⟩
 show IntKind.i64.wrap ((t : Int) + (((if decide (((u : Nat) : Int) ≥ ((10 ^ t : Nat) : Int)) = true then 1 else 0) : Nat) : Int)) = _
 have e : (if decide (((u : Nat) : Int) ≥ ((10 ^ t : Nat) : Int)) = true then 1 else 0) = (if 10 ^ t ≤ u then 1 else 0 : Nat) := by
   by_cases g : 10 ^ t ≤ u
   · rw [if_pos g, if_pos (decide_eq_true (by exact_mod_cast g))]
   · rw [if_neg g, if_neg (by rw [decide_eq_false (by intro g2; exact g (by exact_mod_cast g2))]; decide)]
 rw [e]
 unfold ndig
 rw [← ht, nadd, nwrapi (by split <;> omega)]
theorem smallW (w0 : World) (H : List Blk) {n : Nat} (hn : n < 100) : CallsA Tryz.prog w0 98 [.c (.val (.int .i64 n))] H fun r H' => r = .o (.c (.val (.string (strOf (if n < 10 then digs 1 n else digs 2 n))))) ∧ H' = H := by
 refine CallsA_frame rfl rfl ?_ H
 have hf : ∀ n, n < 10 → (ByteArray.mk #[48, 49, 50, 51, 52, 53, 54, 55, 56, 57, 97, 98, 99, 100, 101, 102, 103, 104, 105, 106, 107, 108, 109, 110, 111, 112, 113, 114, 115, 116, 117, 118, 119, 120, 121, 122]).extract n (n + 1) = strOf (digs 1 n) := by decide +kernel
 have hf2 : ∀ n, n < 100 → 10 ≤ n → smalls.extract (n * 2) (n * 2 + 2) = strOf (digs 2 n) := by decide +kernel
 refine callsA_of_ev c98_ ?_
 conv => whnf
 refine Or.inl ?_
 conv => whnf
 refine ⟨fun g => ?_, fun g => ?_⟩
 · have g : n < 10 := lt_t g
   conv => whnf
   rw [nadd, nwrapi (n := n + 1) (by omega)]
   refine ⟨⟨by omega, by omega, ?_⟩, ?_⟩
   · show ((n + 1 : Nat) : Int) ≤ ((36 : Nat) : Int)
     omega
   conv => whnf
   refine Or.inl ⟨?_, rfl⟩
   rw [if_pos g, ← hf n g]
   rfl
 · have g : 10 ≤ n := lt_f g
   conv => whnf
   rw [nmul, nwrapi (n := n * 2) (by omega), nadd, nwrapi (n := n * 2 + 2) (by omega)]
   refine ⟨⟨by omega, by omega, ?_⟩, ?_⟩
   · show ((n * 2 + 2 : Nat) : Int) ≤ ((200 : Nat) : Int)
     omega
   conv => whnf
   refine Or.inl ⟨?_, rfl⟩
   rw [if_neg (by omega), ← hf2 n hn g]
   rfl
end Go.Proofs.YtokkphocaloelaaGreatDoor

end
section
namespace Go.Proofs.YtokkphocaloelaaGreatDoor
open Go Go.Vc
open Go.ChangeShapes Go.WideShapes Go.RowKit

theorem own : ownKnob Tryz.prog.godebug = none := by kernel_rfl
theorem laidOut : laidOutB Tryz.prog = true := by kernel_rfl
theorem gPow : Tryz.prog.globalNamed "internal/strconv.uint64pow10" = some 6 := by kernel_rfl
theorem tPow : (Tryz.prog.globals[6]?).map (·.type) = some 201 := by kernel_rfl
theorem cells64 : Tryz.prog.cellsOf 39 = 1 := by kernel_rfl
theorem powsList : Rows.laid_internal_strconv_uint64pow10 (H := Unit) = .agg ((List.range 20).map fun i => .lit (.int .u64 ((10 ^ i : Nat) : Int))) := by kernel_rfl
theorem pows_of {W : World} {r : List (String × DataW Unit)} (h : laidMet Tryz.prog (("internal/strconv.uint64pow10", Rows.laid_internal_strconv_uint64pow10) :: r) W) : pows W := by
 obtain ⟨ps, ⟨g0, t0, cs0, f0, p0, q0, hg0, ht0, hv0, hd0, _, e0⟩, _, hrows⟩ := h
 obtain rfl := Option.some.inj (gPow.symm.trans hg0)
 obtain rfl := Option.some.inj (tPow.symm.trans ht0)
 rw [powsList] at hd0
 obtain ⟨xs, m, _, hx, hl, hlen, hel⟩ := DataW.trod_array Tryz.underlying201 hd0
 intro i hi
 have h1 := hel i hi
 rw [cells64, Nat.mul_one] at h1
 obtain ⟨x, hxi⟩ : ∃ x, xs[i]? = some x := ⟨_, List.getElem?_eq_getElem (by omega)⟩
 rw [hxi] at h1
 obtain ⟨n, e1, e2, _⟩ := DataW.trod_int Tryz.underlying39 h1
 have e3 : ((List.range 20).map fun i => (DataW.lit (.int .u64 ((10 ^ i : Nat) : Int)) : DataW Unit)) = xs.map (·.1) := by
   have := (Prod.mk.inj hx).1
   exact DataW.agg.inj this
 have e4 : (xs.map (·.1))[i]? = some x.1 := by rw [List.getElem?_map, hxi]; rfl
 rw [← e3, List.getElem?_map, List.getElem?_range hi] at e4
 have e5 : (DataW.lit (.int .u64 ((10 ^ i : Nat) : Int)) : DataW Unit) = x.1 := Option.some.inj e4
 rw [e2] at e5
 have e6 : ((10 ^ i : Nat) : Int) = n := by
   have := DataW.lit.inj e5
   injection this
 have hc := World.var?_cell gPow hv0 i
 show W.cell? ((Addr.mk 6 0 none).add (i * 1)) = _
 have ea : (Addr.mk 6 0 none).add (i * 1) = ⟨6, i, none⟩ := by
   simp only [Addr.add, Nat.mul_one, Nat.zero_add]
   split
   · rename_i c
     simp_all
   · rfl
 rw [ea, hc]
 have e7 : cs0.toList[i]? = some (.int .u64 n) := by
   have h2 : ((cs0.toList.drop i).take 1)[0]? = some (.int .u64 n) := by rw [e1]; rfl
   rw [List.getElem?_take, if_pos (by omega), List.getElem?_drop, Nat.add_zero] at h2
   exact h2
 rw [← Array.getElem?_toList, e7, e6]
theorem cellsStr : Tryz.prog.cellsOf 9 = 1 := by kernel_rfl
theorem cellsES : Tryz.prog.cellsOf 243 = 1 := by kernel_rfl
theorem star : "*" ++ "errors.errorString" = "*errors.errorString" := by decide
theorem rowES (u : TypeId) (h : Tryz.prog.typeName? 3 u = some "*errors.errorString") : u = 227 :=
 typeName_ptr_named (nm := "errors.errorString") (by rw [star]; kernel_rfl) (by kernel_rfl) (by decide) u (by rw [star]; exact h)
structure ErrAt (W : World) (g : Nat) (text : List UInt8) (a : Addr) : Prop where
 var : W.cell? (Addr.mk g 0 none) = some (.iface 227 (.pointer (some a)))
 txt : ∃ s : ByteArray, W.cell? a = some (.string s) ∧ s.data.toList = text
 blk : ∃ c t, W.heap[a.block]? = some (.cells c t (0, 0))
theorem laid_errP {P : Program} {n nm : String} {text : List UInt8} {r : List (String × DataW Unit)} {W : World} {g : Nat} {ti tp te ts : TypeId} {ms : Array (String × TypeId)} {f : Field}
   (h : laidMet P ((n, .iface nm (.ptr (.agg [.lit (.string text)]))) :: r) W)
   (hg : P.globalNamed n = some g) (ht : (P.globals[g]?).map (·.type) = some ti) (hi : P.underlying ti = some (.interface ms)) (hrow : ∀ u, P.typeName? 3 u = some nm → u = tp)
   (hp : P.underlying tp = some (.pointer te)) (he : P.underlying te = some (.struct #[f])) (hft : f.type = ts) (hfo : f.offset = 0) (hs : P.underlying ts = some .string) (hc : P.cellsOf te = 1) (hcs : P.cellsOf ts = 1) :
   ∃ (a : Addr) (s : ByteArray), W.var? P n = some #[.iface tp (.pointer (some a))] ∧ W.cell? a = some (.string s) ∧ s.data.toList = text ∧ ∃ c t, W.heap[a.block]? = some (.cells c t (0, 0)) := by
 obtain ⟨ps, ⟨g0, t0, cs0, f0, p0, q0, hg0, ht0, hv0, hd0, _, e0⟩, _, hrows⟩ := h
 obtain rfl := Option.some.inj (hg.symm.trans hg0)
 obtain rfl := Option.some.inj (ht.symm.trans ht0)
 subst e0
 obtain ⟨l0⟩ := cs0
 have ok0 : ∀ u v, l0 = [.iface u v] → Value.okWide P W .any 0 u v := fun u v e => by
   subst e
   exact (hrows g 0 (by simp [MemPlace.row])).2 u v (by simpa using World.var?_cell hg0 hv0 0)
 obtain ⟨a0, s0, rfl, hc0, hs0, hz0, rfl⟩ := errorString_of_trod hi hrow hp he hft hfo hs hc hcs hd0 ok0
 exact ⟨a0, s0, hv0, hc0, hs0, (hrows a0.block a0.off (by simp [MemPlace.row])).1⟩
theorem laid_err {n : String} {text : List UInt8} {r : List (String × DataW Unit)} {W : World} {g : Nat}
   (h : laidMet Tryz.prog ((n, .iface "*errors.errorString" (.ptr (.agg [.lit (.string text)]))) :: r) W)
   (hg : Tryz.prog.globalNamed n = some g) (ht : (Tryz.prog.globals[g]?).map (·.type) = some 71) : ∃ a, ErrAt W g text a := by
 obtain ⟨a, s, h1, h2, h3, h4⟩ := laid_errP h hg ht Tryz.underlying71 rowES Tryz.underlying227 Tryz.underlying243 rfl rfl Tryz.underlying9 cellsES cellsStr
 exact ⟨a, World.var?_cell hg h1 0, ⟨s, h2, h3⟩, h4⟩
theorem esComp : (Tryz.prog.info? 227).map (·.comparable) = some true := by kernel_rfl
theorem esSize : (Tryz.prog.info? 243).map (·.size) = some 1 := by kernel_rfl
theorem eqES {W : World} {g g' : Nat} {x y : List UInt8} {a b : Addr} (ha : ErrAt W g x a) (hb : ErrAt W g' y b) (hn : x ≠ y) : ieqOf Tryz.prog W 71 (.iface 227 (.pointer (some a))) (.iface 227 (.pointer (some b))) false := by
 intro w hw
 have hne : a ≠ b := by
   rintro rfl
   obtain ⟨s, h1, h2⟩ := ha.txt
   obtain ⟨s', h3, h4⟩ := hb.txt
   rw [h1] at h3
   cases h3
   exact hn (h2.symm.trans h4)
 obtain ⟨c, t, hc⟩ := ha.blk
 obtain ⟨c', t', hc'⟩ := hb.blk
 have l1 : a.block < W.heap.size := (Array.getElem?_eq_some_iff.1 hc).1
 have l2 : b.block < W.heap.size := (Array.getElem?_eq_some_iff.1 hc').1
 obtain ⟨i, hi, hcmp⟩ := Option.map_eq_some_iff.1 esComp
 obtain ⟨j, hj, hsz⟩ := Option.map_eq_some_iff.1 esSize
 have := run_equalIn_iface_ptr_other (P := Tryz.prog) w 9998 Tryz.underlying71 Tryz.underlying227 hi hcmp hj (by rw [hsz]; decide) hne (ca := c) (ta := t) (cb := c') (tb := t') ((hw.block _ l1).trans hc) ((hw.block _ l2).trans hc')
 simpa [Op.equal, Op.maxDepth] using this
theorem sameES {W : World} (a : Addr) : ieqOf Tryz.prog W 71 (.iface 227 (.pointer (some a))) (.iface 227 (.pointer (some a))) true := by
 intro w _
 obtain ⟨i, hi, hcmp⟩ := Option.map_eq_some_iff.1 esComp
 obtain ⟨j, hj, _⟩ := Option.map_eq_some_iff.1 esSize
 have := run_equalIn_iface_ptr_same (P := Tryz.prog) w 9998 a Tryz.underlying71 Tryz.underlying227 hi hcmp hj
 simpa [Op.equal, Op.maxDepth] using this
theorem nilES {W : World} (a : Addr) : ieqOf Tryz.prog W 71 .nilIface (.iface 227 (.pointer (some a))) false := by
 intro w _
 have h : ∀ d : Nat, (Op.equalIn (d + 1) 71 .nilIface (.iface 227 (.pointer (some a)))).run Tryz.prog w = .ok false w := fun d => by simp [Op.equalIn, run_underlying Tryz.underlying71]
 simpa [Op.equal, Op.maxDepth] using h 9999
theorem errs_of {W : World} {a0 a1 a2 a4 a5 a7 a8 a9 a10 a11 : Addr} {x0 x1 x2 x4 x5 x7 x8 x9 x10 x11 : List UInt8} (h0 : ErrAt W 0 x0 a0) (h1 : ErrAt W 1 x1 a1) (h2 : ErrAt W 2 x2 a2) (h4 : ErrAt W 4 x4 a4) (h5 : ErrAt W 5 x5 a5)
   (h7 : ErrAt W 7 x7 a7) (h8 : ErrAt W 8 x8 a8) (h9 : ErrAt W 9 x9 a9) (h10 : ErrAt W 10 x10 a10) (h11 : ErrAt W 11 x11 a11) (hx : ∀ x ∈ [x1, x2, x4, x5, x7, x8, x9, x10, x11], x ≠ x0) : ∃ v, Errs W 227 v := by
 refine ⟨fun k => .pointer (some (match k with | 0 => a0 | 1 => a1 | 2 => a2 | 4 => a4 | 5 => a5 | 7 => a7 | 8 => a8 | 9 => a9 | 10 => a10 | _ => a11)), fun k hk h3 h6 => ?_, fun k hk h3 h6 => ?_, nilES a0⟩
 · have : k = 0 ∨ k = 1 ∨ k = 2 ∨ k = 4 ∨ k = 5 ∨ k = 7 ∨ k = 8 ∨ k = 9 ∨ k = 10 ∨ k = 11 := by omega
   rcases this with rfl | rfl | rfl | rfl | rfl | rfl | rfl | rfl | rfl | rfl
   · exact h0.var
   · exact h1.var
   · exact h2.var
   · exact h4.var
   · exact h5.var
   · exact h7.var
   · exact h8.var
   · exact h9.var
   · exact h10.var
   · exact h11.var
 · have : k = 0 ∨ k = 1 ∨ k = 2 ∨ k = 4 ∨ k = 5 ∨ k = 7 ∨ k = 8 ∨ k = 9 ∨ k = 10 ∨ k = 11 := by omega
   rcases this with rfl | rfl | rfl | rfl | rfl | rfl | rfl | rfl | rfl | rfl
   · exact sameES a0
   · exact eqES h1 h0 (hx _ (by simp))
   · exact eqES h2 h0 (hx _ (by simp))
   · exact eqES h4 h0 (hx _ (by simp))
   · exact eqES h5 h0 (hx _ (by simp))
   · exact eqES h7 h0 (hx _ (by simp))
   · exact eqES h8 h0 (hx _ (by simp))
   · exact eqES h9 h0 (hx _ (by simp))
   · exact eqES h10 h0 (hx _ (by simp))
   · exact eqES h11 h0 (hx _ (by simp))
theorem g0 : Tryz.prog.globalNamed "io.EOF" = some 0 := by kernel_rfl
theorem g1 : Tryz.prog.globalNamed "io.ErrUnexpectedEOF" = some 1 := by kernel_rfl
theorem g2 : Tryz.prog.globalNamed "pub-carronade/pub/opus/pkg/oggreader.errShortPageHeader" = some 2 := by kernel_rfl
theorem g4 : Tryz.prog.globalNamed "pub-carronade/pub/opus/pkg/oggreader.errNilStream" = some 4 := by kernel_rfl
theorem g5 : Tryz.prog.globalNamed "pub-carronade/pub/opus/pkg/oggreader.errChecksumMismatch" = some 5 := by kernel_rfl
theorem g7 : Tryz.prog.globalNamed "io.ErrShortBuffer" = some 7 := by kernel_rfl
theorem g8 : Tryz.prog.globalNamed "pub-carronade/pub/opus/pkg/oggreader.errBadIDPageSignature" = some 8 := by kernel_rfl
theorem g9 : Tryz.prog.globalNamed "pub-carronade/pub/opus/pkg/oggreader.errBadIDPageType" = some 9 := by kernel_rfl
theorem g10 : Tryz.prog.globalNamed "pub-carronade/pub/opus/pkg/oggreader.errBadIDPageLength" = some 10 := by kernel_rfl
theorem g11 : Tryz.prog.globalNamed "pub-carronade/pub/opus/pkg/oggreader.errBadIDPagePayloadSignature" = some 11 := by kernel_rfl
theorem tg : ∀ k ∈ [0, 1, 2, 4, 5, 7, 8, 9, 10, 11], (Tryz.prog.globals[k]?).map (·.type) = some 71 := by
 intro k hk
 simp only [List.mem_cons, List.not_mem_nil, or_false] at hk
 rcases hk with rfl | rfl | rfl | rfl | rfl | rfl | rfl | rfl | rfl | rfl <;> kernel_rfl
def laidErrs (r : List (String × DataW Unit)) : List (String × DataW Unit) := ("io.ErrShortBuffer", Rows.laid_io_ErrShortBuffer) :: ("io.EOF", Rows.laid_io_EOF) :: ("io.ErrUnexpectedEOF", Rows.laid_io_ErrUnexpectedEOF) :: ("pub-carronade/pub/opus/pkg/oggreader.errNilStream", Rows.laid_pub_carronade_pub_opus_pkg_oggreader_errNilStream) :: ("pub-carronade/pub/opus/pkg/oggreader.errBadIDPageSignature", Rows.laid_pub_carronade_pub_opus_pkg_oggreader_errBadIDPageSignature) :: ("pub-carronade/pub/opus/pkg/oggreader.errBadIDPageType", Rows.laid_pub_carronade_pub_opus_pkg_oggreader_errBadIDPageType) :: ("pub-carronade/pub/opus/pkg/oggreader.errBadIDPageLength", Rows.laid_pub_carronade_pub_opus_pkg_oggreader_errBadIDPageLength) :: ("pub-carronade/pub/opus/pkg/oggreader.errBadIDPagePayloadSignature", Rows.laid_pub_carronade_pub_opus_pkg_oggreader_errBadIDPagePayloadSignature) :: ("pub-carronade/pub/opus/pkg/oggreader.errShortPageHeader", Rows.laid_pub_carronade_pub_opus_pkg_oggreader_errShortPageHeader) :: ("pub-carronade/pub/opus/pkg/oggreader.errChecksumMismatch", Rows.laid_pub_carronade_pub_opus_pkg_oggreader_errChecksumMismatch) :: r
theorem errs_of_laid {W : World} {r : List (String × DataW Unit)} (h : laidMet Tryz.prog (laidErrs r) W) : ∃ v, Errs W 227 v := by
 obtain ⟨a7, e7⟩ := laid_err h g7 (tg 7 (by simp))
 have h := h.tail
 obtain ⟨a0, e0⟩ := laid_err h g0 (tg 0 (by simp))
 have h := h.tail
 obtain ⟨a1, e1⟩ := laid_err h g1 (tg 1 (by simp))
 have h := h.tail
 obtain ⟨a4, e4⟩ := laid_err h g4 (tg 4 (by simp))
 have h := h.tail
 obtain ⟨a8, e8⟩ := laid_err h g8 (tg 8 (by simp))
 have h := h.tail
 obtain ⟨a9, e9⟩ := laid_err h g9 (tg 9 (by simp))
 have h := h.tail
 obtain ⟨a10, e10⟩ := laid_err h g10 (tg 10 (by simp))
 have h := h.tail
 obtain ⟨a11, e11⟩ := laid_err h g11 (tg 11 (by simp))
 have h := h.tail
 obtain ⟨a2, e2⟩ := laid_err h g2 (tg 2 (by simp))
 have h := h.tail
 obtain ⟨a5, e5⟩ := laid_err h g5 (tg 5 (by simp))
 exact errs_of e0 e1 e2 e4 e5 e7 e8 e9 e10 e11 (by decide)
def laidO : List (String × DataW Unit) := ("math/bits.deBruijn32tab", Rows.laid_math_bits_deBruijn32tab) :: ("math/bits.deBruijn64tab", Rows.laid_math_bits_deBruijn64tab) :: ("internal/strconv.uint64pow10", Rows.laid_internal_strconv_uint64pow10) :: laidErrs []
theorem metO {W : World} (h : laidMetH Tryz.prog laidO W) : pows W ∧ ∃ v, Errs W 227 v := by
 rw [MakeChecks.laidMetH_plain _ _ _ (by kernel_rfl)] at h
 have h := h.tail.tail
 exact ⟨pows_of h, errs_of_laid h.tail⟩
theorem doorO (os : Os) (args : Array Value) : laidMetH Tryz.prog laidO ((World.doorLaid Tryz.prog 400 os).forCall (fun _ _ => 0) ⟨#[], args, []⟩).memory :=
 laidMetH_of_parts3 (fuel := 8) (laidMet_of_run' 8 (by kernel_rfl) (by kernel_rfl)) (by kernel_rfl) (by kernel_rfl)
end Go.Proofs.YtokkphocaloelaaGreatDoor

end
section
namespace Go.Proofs.YtokkphocaloelaaGreatDoor
open Go Go.Vc Go.Deep
set_option maxRecDepth 100000

theorem wf_u32' {n : Int} (h : (Lit.int .u32 n).wf = true) : ∃ m : Nat, n = m ∧ m < 4294967296 := by
 simp only [Lit.wf, Bool.and_eq_true, decide_eq_true_eq] at h
 have h1 : 0 ≤ n := h.1
 have h2 : n ≤ 4294967295 := h.2
 exact ⟨n.toNat, by omega, by omega⟩
theorem wf_u64' {n : Int} (h : (Lit.int .u64 n).wf = true) : ∃ m : Nat, n = m ∧ m < 18446744073709551616 := by
 simp only [Lit.wf, Bool.and_eq_true, decide_eq_true_eq] at h
 have h1 : 0 ≤ n := h.1
 have h2 : n ≤ 18446744073709551615 := h.2
 exact ⟨n.toNat, by omega, by omega⟩
theorem wf_i64' {n : Int} (h : (Lit.int .i64 n).wf = true) : -9223372036854775808 ≤ n ∧ n < 9223372036854775808 := by
 simp only [Lit.wf, Bool.and_eq_true, decide_eq_true_eq] at h
 have h1 : -9223372036854775808 ≤ n := h.1
 have h2 : n ≤ 9223372036854775807 := h.2
 omega
theorem list6 {α : Type} {l : List α} (h : l.length = 6) : ∃ a b c d e f, l = [a, b, c, d, e, f] := by
 match l, h with
 | [a, b, c, d, e, f], _ => exact ⟨a, b, c, d, e, f, rfl⟩
theorem list10 {α : Type} {l : List α} (h : l.length = 10) : ∃ a b c d e f g i j k, l = [a, b, c, d, e, f, g, i, j, k] := by
 match l, h with
 | [a, b, c, d, e, f, g, i, j, k], _ => exact ⟨a, b, c, d, e, f, g, i, j, k, rfl⟩
theorem bulk_strs {H : Type} (ss : List ByteArray) : Rows.uptoBulkAll (ChangeShapes.strs (H := H) ss) = ss.length + psz ss := by
 induction ss with
 | nil => rfl
 | cons s r ih =>
   show Rows.uptoBulk (DataW.lit (.string s.data.toList)) + Rows.uptoBulkAll (ChangeShapes.strs r) = _
   rw [ih, psz]
   simp only [Rows.uptoBulk, List.length_cons]
   have : s.data.toList.length = s.size := Array.length_toList
   omega
theorem cl3 : Tryz.prog.cellsOf 3 = 1 := by kernel_rfl
theorem cl4 : Tryz.prog.cellsOf 4 = 1 := by kernel_rfl
theorem cl22 : Tryz.prog.cellsOf 22 = 1 := by kernel_rfl
theorem cl39 : Tryz.prog.cellsOf 39 = 1 := by kernel_rfl
theorem cl9 : Tryz.prog.cellsOf 9 = 1 := by kernel_rfl
theorem cl31 : Tryz.prog.cellsOf 31 = 1 := by kernel_rfl
theorem cl23 : Tryz.prog.cellsOf 23 = 1 := by kernel_rfl
theorem cl57 : Tryz.prog.cellsOf 57 = 6 := by kernel_rfl
theorem cl25 : Tryz.prog.cellsOf 25 = 10 := by kernel_rfl
section
variable {H : Type} {enc : TypeId × Value → H} {w : World} {base : Nat} {spare : Nat → Bool} {held : Bool}
theorem opened_strs {n : Nat} {cs : List Value} {x : DataW H × List MemPlace} (h : DataW.trod enc Tryz.prog w base spare held n 31 cs = some x) :
   ∃ v ss, cs = [v] ∧ strsAt w v ss ∧ v.oneCell' = true ∧ ss.length + psz ss + 1 ≤ Rows.uptoBulk x.1 := by
 rcases Go.ChangeShapes.open_strings Tryz.underlying31 Tryz.underlying9 cl9 h with ⟨hcs, rfl⟩ | ⟨a, len, cap, ss, hcs, _, hlc, hm, hz, rfl, hcell, _⟩
 · exact ⟨_, [], hcs, Or.inl ⟨rfl, rfl⟩, rfl, by simp [Rows.uptoBulk, psz]⟩
 · have hln : len ≤ ss.length := by rw [hz]; split <;> omega
   have htl : (ss.take len).length = len := by rw [List.length_take]; omega
   refine ⟨_, ss.take len, hcs, Or.inr ⟨a, cap, by rw [htl], by omega, fun i s hi => ?_⟩, rfl, ?_⟩
   · have hil : i < len := by
       have := (List.getElem?_eq_some_iff.1 hi).1
       omega
     rw [List.getElem?_take, if_pos hil] at hi
     rw [Nat.mul_one, hcell i (by omega), List.getD_eq_getElem?_getD, hi]
     rfl
   · simp only [Rows.uptoBulk]
     rw [bulk_strs]
     omega
theorem opened_page {n : Nat} {cs : List Value} {x : DataW H × List MemPlace} (h : DataW.trod enc Tryz.prog w base spare held n 57 cs = some x) :
   ∃ (p : Pg) (v : Value), cs = [.int .u32 p.ser, .int .u32 p.seq, .int .u64 p.gran, .int .i64 p.flags, v, .bool p.more] ∧ v.oneCell' = true ∧ strsAt w v p.parts ∧
     (p.ser < 4294967296 ∧ p.seq < 4294967296 ∧ p.gran < 18446744073709551616 ∧ -9223372036854775808 ≤ p.flags ∧ p.flags < 9223372036854775808) ∧ p.wt ≤ 4 * Rows.uptoBulk x.1 := by
 obtain ⟨xs, m, rfl, rfl, hl, hlen, hf⟩ := DataW.trod_struct Tryz.underlying57 h
 rw [cl57] at hl
 obtain ⟨c0, c1, c2, c3, c4, c5, rfl⟩ := list6 hl
 obtain ⟨y0, y1, y2, y3, y4, y5, rfl⟩ := list6 (l := xs) hlen
 have h0 : DataW.trod enc Tryz.prog w base spare held m 22 (([c0, c1, c2, c3, c4, c5].drop 0).take (Tryz.prog.cellsOf 22)) = [y0, y1, y2, y3, y4, y5][0]? := hf 0 _ rfl
 have h1 : DataW.trod enc Tryz.prog w base spare held m 22 (([c0, c1, c2, c3, c4, c5].drop 1).take (Tryz.prog.cellsOf 22)) = [y0, y1, y2, y3, y4, y5][1]? := hf 1 _ rfl
 have h2 : DataW.trod enc Tryz.prog w base spare held m 39 (([c0, c1, c2, c3, c4, c5].drop 2).take (Tryz.prog.cellsOf 39)) = [y0, y1, y2, y3, y4, y5][2]? := hf 2 _ rfl
 have h3 : DataW.trod enc Tryz.prog w base spare held m 3 (([c0, c1, c2, c3, c4, c5].drop 3).take (Tryz.prog.cellsOf 3)) = [y0, y1, y2, y3, y4, y5][3]? := hf 3 _ rfl
 have h4 : DataW.trod enc Tryz.prog w base spare held m 31 (([c0, c1, c2, c3, c4, c5].drop 4).take (Tryz.prog.cellsOf 31)) = [y0, y1, y2, y3, y4, y5][4]? := hf 4 _ rfl
 have h5 : DataW.trod enc Tryz.prog w base spare held m 4 (([c0, c1, c2, c3, c4, c5].drop 5).take (Tryz.prog.cellsOf 4)) = [y0, y1, y2, y3, y4, y5][5]? := hf 5 _ rfl
 rw [cl22] at h0 h1
 rw [cl39] at h2
 rw [cl3] at h3
 rw [cl31] at h4
 rw [cl4] at h5
 obtain ⟨n0, q0, r0, w0⟩ := DataW.trod_int Tryz.underlying22 h0
 obtain ⟨n1, q1, r1, w1⟩ := DataW.trod_int Tryz.underlying22 h1
 obtain ⟨n2, q2, r2, w2⟩ := DataW.trod_int Tryz.underlying39 h2
 obtain ⟨n3, q3, r3, w3⟩ := DataW.trod_int Tryz.underlying3 h3
 obtain ⟨v, ss, q4, hs, ho, hbk⟩ := opened_strs h4
 obtain ⟨n5, q5, r5⟩ := DataW.trod_bool Tryz.underlying4 h5
 obtain rfl : c0 = _ := (List.cons.inj q0).1
 obtain rfl : c1 = _ := (List.cons.inj q1).1
 obtain rfl : c2 = _ := (List.cons.inj q2).1
 obtain rfl : c3 = _ := (List.cons.inj q3).1
 obtain rfl : c4 = _ := (List.cons.inj q4).1
 obtain rfl : c5 = _ := (List.cons.inj q5).1
 obtain ⟨m0, rfl, l0⟩ := wf_u32' w0
 obtain ⟨m1, rfl, l1⟩ := wf_u32' w1
 obtain ⟨m2, rfl, l2⟩ := wf_u64' w2
 have i3 := wf_i64' w3
 refine ⟨⟨m0, m1, m2, n3, ss, n5⟩, c4, rfl, ho, hs, ⟨l0, l1, l2, i3.1, i3.2⟩, ?_⟩
 subst r0 r1 r2 r3 r5
 simp only [Rows.uptoBulk, Rows.uptoBulkAll, List.map_cons, List.map_nil]
 show 27 + ss.length + psz ss ≤ _
 omega
theorem wts_bulk {f : Nat → Pg × Value} {D : Nat → DataW H} : ∀ (l : List Nat), (∀ i ∈ l, (f i).1.wt ≤ 4 * Rows.uptoBulk (D i)) → wts ((l.map f).map Prod.fst) ≤ 4 * Rows.uptoBulkAll (l.map D)
 | [], _ => Nat.zero_le _
 | i :: r, h => by
   have h1 := h i (List.mem_cons_self ..)
   have h2 := wts_bulk r fun j hj => h j (List.mem_cons_of_mem _ hj)
   show (f i).1.wt + wts ((r.map f).map Prod.fst) ≤ 4 * (Rows.uptoBulk (D i) + Rows.uptoBulkAll (r.map D))
   omega
theorem opened_pages {n : Nat} {cs : List Value} {x : DataW H × List MemPlace} (h : DataW.trod enc Tryz.prog w base spare held n 26 cs = some x) :
   ∃ v xs, cs = [v] ∧ pgsAt w v xs ∧ wtx xs ≤ 4 * Rows.uptoBulk x.1 := by
 rcases open_slice Tryz.underlying26 h with ⟨rfl, rfl⟩ | ⟨a, len, cap, m, k, D, Pl, rfl, _, hl, hm, hmm, rfl, hel⟩
 · exact ⟨_, [], rfl, Or.inl ⟨rfl, rfl⟩, Nat.zero_le _⟩
 · have hle : len ≤ m := by rw [hmm]; split <;> omega
   have hget : ∀ i, i < len → ∃ x : Pg × Value, pgCells w (a.add (i * 6)) x.1 x.2 ∧ x.1.wt ≤ 4 * Rows.uptoBulk (D i) := by
     intro i hi
     obtain ⟨cs', hc, ht⟩ := hel i (by omega)
     obtain ⟨p, v, rfl, ho, hs, hfit, hw⟩ := opened_page ht
     rw [cl57] at hc
     obtain ⟨_, _, hcc⟩ := World.cells?_some hc
     exact ⟨(p, v), ⟨hcc 0 (by simp), hcc 1 (by simp), hcc 2 (by simp), hcc 3 (by simp), hcc 4 (by simp), hcc 5 (by simp), ho, hs, hfit⟩, hw⟩
   have : Inhabited (Pg × Value) := ⟨(⟨0, 0, 0, 0, [], false⟩, .slice none 0 0)⟩
   obtain ⟨f, hf⟩ := choose_lt hget
   refine ⟨_, (List.range len).map f, rfl, Or.inr ⟨a, cap, ?_, ?_, ?_⟩, ?_⟩
   · rw [List.length_map, List.length_range]
   · rw [List.length_map, List.length_range]
     exact hl
   · intro i x hx
     rw [List.getElem?_map] at hx
     rcases Nat.lt_or_ge i len with hi | hi
     · rw [List.getElem?_range hi] at hx
       simp only [Option.map_some, Option.some.injEq] at hx
       subst hx
       exact (hf i hi).1
     · rw [List.getElem?_eq_none (by simpa using hi)] at hx
       cases hx
   · have h1 := wts_bulk (f := f) (D := D) (List.range len) fun i hi => (hf i (List.mem_range.1 hi)).2
     unfold wtx
     simp only [Rows.uptoBulk]
     omega
theorem opened_head {n : Nat} {cs : List Value} {x : DataW H × List MemPlace} (h : DataW.trod enc Tryz.prog w base spare held n 25 cs = some x) :
   ∃ (hd : Hd) (ma : Option Addr) (mn mc : Nat), cs = [.int .i64 hd.ver, .int .i64 hd.ch, .int .i64 hd.map, .int .i64 hd.skip, .int .i64 hd.gain, .int .u32 hd.rate, .int .i64 hd.str, .int .i64 hd.cou, .string hd.mapping, .slice ma mn mc] ∧
     hd.rate < 4294967296 ∧ (∀ x ∈ [hd.ver, hd.ch, hd.map, hd.skip, hd.gain, hd.str, hd.cou], -9223372036854775808 ≤ x ∧ x < 9223372036854775808) ∧ hd.mapping.size ≤ maxLen := by
 obtain ⟨xs, m, rfl, rfl, hl, hlen, hf⟩ := DataW.trod_struct Tryz.underlying25 h
 rw [cl25] at hl
 obtain ⟨c0, c1, c2, c3, c4, c5, c6, c7, c8, c9, rfl⟩ := list10 hl
 obtain ⟨y0, y1, y2, y3, y4, y5, y6, y7, y8, y9, rfl⟩ := list10 (l := xs) hlen
 have h0 : DataW.trod enc Tryz.prog w base spare held m 3 (([c0, c1, c2, c3, c4, c5, c6, c7, c8, c9].drop 0).take (Tryz.prog.cellsOf 3)) = [y0, y1, y2, y3, y4, y5, y6, y7, y8, y9][0]? := hf 0 _ rfl
 have h1 : DataW.trod enc Tryz.prog w base spare held m 3 (([c0, c1, c2, c3, c4, c5, c6, c7, c8, c9].drop 1).take (Tryz.prog.cellsOf 3)) = [y0, y1, y2, y3, y4, y5, y6, y7, y8, y9][1]? := hf 1 _ rfl
 have h2 : DataW.trod enc Tryz.prog w base spare held m 3 (([c0, c1, c2, c3, c4, c5, c6, c7, c8, c9].drop 2).take (Tryz.prog.cellsOf 3)) = [y0, y1, y2, y3, y4, y5, y6, y7, y8, y9][2]? := hf 2 _ rfl
 have h3 : DataW.trod enc Tryz.prog w base spare held m 3 (([c0, c1, c2, c3, c4, c5, c6, c7, c8, c9].drop 3).take (Tryz.prog.cellsOf 3)) = [y0, y1, y2, y3, y4, y5, y6, y7, y8, y9][3]? := hf 3 _ rfl
 have h4 : DataW.trod enc Tryz.prog w base spare held m 3 (([c0, c1, c2, c3, c4, c5, c6, c7, c8, c9].drop 4).take (Tryz.prog.cellsOf 3)) = [y0, y1, y2, y3, y4, y5, y6, y7, y8, y9][4]? := hf 4 _ rfl
 have h5 : DataW.trod enc Tryz.prog w base spare held m 22 (([c0, c1, c2, c3, c4, c5, c6, c7, c8, c9].drop 5).take (Tryz.prog.cellsOf 22)) = [y0, y1, y2, y3, y4, y5, y6, y7, y8, y9][5]? := hf 5 _ rfl
 have h6 : DataW.trod enc Tryz.prog w base spare held m 3 (([c0, c1, c2, c3, c4, c5, c6, c7, c8, c9].drop 6).take (Tryz.prog.cellsOf 3)) = [y0, y1, y2, y3, y4, y5, y6, y7, y8, y9][6]? := hf 6 _ rfl
 have h7 : DataW.trod enc Tryz.prog w base spare held m 3 (([c0, c1, c2, c3, c4, c5, c6, c7, c8, c9].drop 7).take (Tryz.prog.cellsOf 3)) = [y0, y1, y2, y3, y4, y5, y6, y7, y8, y9][7]? := hf 7 _ rfl
 have h8 : DataW.trod enc Tryz.prog w base spare held m 9 (([c0, c1, c2, c3, c4, c5, c6, c7, c8, c9].drop 8).take (Tryz.prog.cellsOf 9)) = [y0, y1, y2, y3, y4, y5, y6, y7, y8, y9][8]? := hf 8 _ rfl
 have h9 : DataW.trod enc Tryz.prog w base spare held m 23 (([c0, c1, c2, c3, c4, c5, c6, c7, c8, c9].drop 9).take (Tryz.prog.cellsOf 23)) = [y0, y1, y2, y3, y4, y5, y6, y7, y8, y9][9]? := hf 9 _ rfl
 rw [cl3] at h0 h1 h2 h3 h4 h6 h7
 rw [cl22] at h5
 rw [cl9] at h8
 rw [cl23] at h9
 obtain ⟨n0, q0, _, w0⟩ := DataW.trod_int Tryz.underlying3 h0
 obtain ⟨n1, q1, _, w1⟩ := DataW.trod_int Tryz.underlying3 h1
 obtain ⟨n2, q2, _, w2⟩ := DataW.trod_int Tryz.underlying3 h2
 obtain ⟨n3, q3, _, w3⟩ := DataW.trod_int Tryz.underlying3 h3
 obtain ⟨n4, q4, _, w4⟩ := DataW.trod_int Tryz.underlying3 h4
 obtain ⟨n5, q5, _, w5⟩ := DataW.trod_int Tryz.underlying22 h5
 obtain ⟨n6, q6, _, w6⟩ := DataW.trod_int Tryz.underlying3 h6
 obtain ⟨n7, q7, _, w7⟩ := DataW.trod_int Tryz.underlying3 h7
 obtain ⟨s8, q8, _, z8⟩ := DataW.trod_string Tryz.underlying9 h8
 obtain ⟨m5, rfl, l5⟩ := wf_u32' w5
 obtain rfl : c0 = _ := (List.cons.inj q0).1
 obtain rfl : c1 = _ := (List.cons.inj q1).1
 obtain rfl : c2 = _ := (List.cons.inj q2).1
 obtain rfl : c3 = _ := (List.cons.inj q3).1
 obtain rfl : c4 = _ := (List.cons.inj q4).1
 obtain rfl : c5 = _ := (List.cons.inj q5).1
 obtain rfl : c6 = _ := (List.cons.inj q6).1
 obtain rfl : c7 = _ := (List.cons.inj q7).1
 obtain rfl : c8 = _ := (List.cons.inj q8).1
 have hb : ∀ x ∈ [n0, n1, n2, n3, n4, n6, n7], -9223372036854775808 ≤ x ∧ x < 9223372036854775808 := by
   intro x hx
   simp only [List.mem_cons, List.not_mem_nil, or_false] at hx
   rcases hx with rfl | rfl | rfl | rfl | rfl | rfl | rfl
   · exact wf_i64' w0
   · exact wf_i64' w1
   · exact wf_i64' w2
   · exact wf_i64' w3
   · exact wf_i64' w4
   · exact wf_i64' w6
   · exact wf_i64' w7
 rcases open_slice Tryz.underlying23 h9 with ⟨hcs, _⟩ | ⟨a, len, cap, _, _, _, _, hcs, _⟩
 · obtain rfl : c9 = _ := (List.cons.inj hcs).1
   exact ⟨⟨n0, n1, n2, n3, n4, m5, n6, n7, s8⟩, none, 0, 0, rfl, l5, hb, z8⟩
 · obtain rfl : c9 = _ := (List.cons.inj hcs).1
   exact ⟨⟨n0, n1, n2, n3, n4, m5, n6, n7, s8⟩, some a, len, cap, rfl, l5, hb, z8⟩
end
end Go.Proofs.YtokkphocaloelaaGreatDoor

end
section
namespace Go.Proofs.YtokkphocaloelaaGreatDoor
open Go Go.Vc
set_option maxRecDepth 100000
set_option maxHeartbeats 8000000

def arrB (T : TypeId) (xs : List Int) : Blk := .vec true T (encI .u8) [] 1 xs
theorem digs_at {n u m p : Nat} (hp : p < m) (hm : m ≤ n) : (digs n u)[m - 1 - p]? = some ((48 + u / 10 ^ (n - m) / 10 ^ p % 10 : Nat) : Int) := by
 rw [digs_get (by omega), Nat.div_div_eq_div_mul, ← Nat.pow_add, show n - 1 - (m - 1 - p) = n - m + p by omega]
theorem part_step {xs : List Int} {n u o m p : Nat} {y : Int} (h : o + n ≤ xs.length) (hm : m + p + 1 ≤ n) (hy : y = ((48 + u / 10 ^ (n - (m + p + 1)) / 10 ^ p % 10 : Nat) : Int)) : (part xs (digs n u) o (m + 1)).set (o + m) y = part xs (digs n u) o m := by
 have hl := digs_len n u
 refine part_set (by omega) (by omega) ?_
 have := digs_at (n := n) (u := u) (m := m + p + 1) (p := p) (by omega) hm
 rw [show m + p + 1 - 1 - p = m by omega] at this
 rw [this, hy]
theorem pow_next {u n m j : Nat} (hj : j ≤ m) (hm : m ≤ n) : u / 10 ^ (n - m) / 10 ^ j = u / 10 ^ (n - (m - j)) := by
 rw [Nat.div_div_eq_div_mul, ← Nat.pow_add, show n - m + j = n - (m - j) by omega]
theorem last_small {u n m : Nat} (h : u < 10 ^ n) (hm : m ≤ n) : u / 10 ^ (n - m) < 10 ^ m := by
 refine (Nat.div_lt_iff_lt_mul (Nat.pow_pos (by omega))).2 ?_
 rw [← Nat.pow_add, show m + (n - m) = n by omega]
 exact h
theorem base10W (w0 : World) {T : TypeId} {xs : List Int} {o n c u : Nat} (hlen : o + n ≤ xs.length) (hn : n ≤ 20) (hu : u < 18446744073709551616) (hun : u < 10 ^ n) :
   CallsA Tryz.prog w0 100 [.c (.sli 0 1 o n c), .c (.val (.int .u64 u))] [arrB T xs] fun r H => r = .t [] ∧ H = [arrB T (part xs (digs n u) o 0)] := by
 have hdl := digs_len n u
 refine callsA_of_ev c100_ ?_
 conv => whnf
 refine Or.inl ?_
 conv => whnf
 refine ⟨{m : Nat // m ≤ n}, fun ⟨m, _⟩ => ⟨[(0, .o (.c (.sli 0 1 o n c))), (1, .o (.c (.val (.int .u64 (u / 10 ^ (n - m) : Nat))))), (4, .o (.c (.val (.int .i64 m))))], [arrB T (part xs (digs n u) o m)]⟩, fun m => m.1,
   ⟨⟨n, Nat.le_refl _⟩, [0], ⟨rfl, ⟨?_, rfl, trivial⟩, rfl⟩, rfl, eq_u64 (by rw [Nat.sub_self, Nat.pow_zero, Nat.div_one]), rfl, trivial⟩, fun ⟨m, hm⟩ => ?_⟩
 · have := part_all xs (digs n u) o
   rw [hdl] at this
   rw [this]
   rfl
 obtain ⟨v, hv⟩ : ∃ v, v = u / 10 ^ (n - m) := ⟨_, rfl⟩
 have hvu : v ≤ u := by rw [hv]; exact Nat.div_le_self _ _
 have hvm : v < 10 ^ m := by rw [hv]; exact last_small hun hm
 conv => whnf
 rw [← hv]
 refine ⟨fun g => ?_, fun g => ?_⟩
 · have g : 8 ≤ m := ge_t g
   conv => whnf
   rw [ntmod v 100000000, nwrap32 (n := v % 100000000) (by omega)]
   obtain ⟨x, hx⟩ : ∃ x, x = v % 100000000 := ⟨_, rfl⟩
   rw [← hx]
   rw [ntdiv v 100000000, nwrap64 (n := v / 100000000) (by omega), ntdiv x 10000, nwrap32 (n := x / 10000) (by omega), ntmod x 10000]
   obtain ⟨y1, hy1⟩ : ∃ y, y = x / 10000 := ⟨_, rfl⟩
   obtain ⟨y0, hy0⟩ : ∃ y, y = x % 10000 := ⟨_, rfl⟩
   rw [← hy1, ← hy0]
   rw [ntdiv y0 100, nwrap32 (n := y0 / 100) (by omega), nmul (y0 / 100) 2, nwrap32 (n := y0 / 100 * 2) (by omega), ntmod y0 100, nmul (y0 % 100) 2, nwrap32 (n := y0 % 100 * 2) (by omega), ntdiv y1 100, nwrap32 (n := y1 / 100) (by omega), nmul (y1 / 100) 2, nwrap32 (n := y1 / 100 * 2) (by omega), ntmod y1 100, nmul (y1 % 100) 2, nwrap32 (n := y1 % 100 * 2) (by omega)]
   obtain ⟨k0, hk0⟩ : ∃ y, y = y0 % 100 := ⟨_, rfl⟩
   obtain ⟨k1, hk1⟩ : ∃ y, y = y0 / 100 := ⟨_, rfl⟩
   obtain ⟨k2, hk2⟩ : ∃ y, y = y1 % 100 := ⟨_, rfl⟩
   obtain ⟨k3, hk3⟩ : ∃ y, y = y1 / 100 := ⟨_, rfl⟩
   rw [← hk0, ← hk1, ← hk2, ← hk3]
   conv => whnf
   rw [nadd (k0 * 2) 1, nwrap32 (n := k0 * 2 + 1) (by omega)]
   refine ⟨_, si_lo (k := k0) (by omega), ?_⟩
   conv => whnf
   refine ⟨_, si_hi (k := k0) (by omega), ?_⟩
   conv => whnf
   rw [nsub (a := m) (b := 1) (by omega), nwrapi (n := m - 1) (by omega)]
   refine ⟨by omega, ?_⟩
   conv => whnf
   obtain ⟨z1, hz1⟩ := part_get (xs := xs) (D := digs n u) (o := o) (m := m - 0) (j := m - 1) (by omega) (by omega) (by omega)
   refine ⟨z1, ((48 + k0 % 10 : Nat) : Int), hz1, ?_, ?_⟩
   · show [CV.val (.int .u8 ((48 + k0 % 10 : Nat) : Int))] = [CV.val (.int .u8 (((UInt8.ofNat (48 + k0 % 10)).toNat : Nat) : Int))]
     rw [u8_nat (by omega)]
   conv => whnf
   refine ⟨trivial, ?_⟩
   have e1 : (part xs (digs n u) o m).set (o + ((m - 1 : Nat) : Int).toNat) ((48 + k0 % 10 : Nat) : Int) = part xs (digs n u) o (m - 1) := by
     rw [Int.toNat_natCast]
     have := part_step (xs := xs) (n := n) (u := u) (o := o) (m := m - 1) (p := 0) (y := ((48 + k0 % 10 : Nat) : Int)) hlen (by omega) ?_
     · rw [show m - 1 + 1 = m by omega] at this
       exact this
     · rw [show m - 1 + 0 + 1 = m by omega, ← hv]
       omega
   rw [e1]
   conv => whnf
   rw [nsub (a := m) (b := 2) (by omega), nwrapi (n := m - 2) (by omega)]
   refine ⟨by omega, ?_⟩
   conv => whnf
   obtain ⟨z2, hz2⟩ := part_get (xs := xs) (D := digs n u) (o := o) (m := m - 1) (j := m - 2) (by omega) (by omega) (by omega)
   refine ⟨z2, ((48 + k0 / 10 : Nat) : Int), hz2, ?_, ?_⟩
   · show [CV.val (.int .u8 ((48 + k0 / 10 : Nat) : Int))] = [CV.val (.int .u8 (((UInt8.ofNat (48 + k0 / 10)).toNat : Nat) : Int))]
     rw [u8_nat (by omega)]
   conv => whnf
   refine ⟨trivial, ?_⟩
   have e2 : (part xs (digs n u) o (m - 1)).set (o + ((m - 2 : Nat) : Int).toNat) ((48 + k0 / 10 : Nat) : Int) = part xs (digs n u) o (m - 2) := by
     rw [Int.toNat_natCast]
     have := part_step (xs := xs) (n := n) (u := u) (o := o) (m := m - 2) (p := 1) (y := ((48 + k0 / 10 : Nat) : Int)) hlen (by omega) ?_
     · rw [show m - 2 + 1 = m - 1 by omega] at this
       exact this
     · rw [show m - 2 + 1 + 1 = m by omega, ← hv]
       omega
   rw [e2]
   conv => whnf
   rw [nadd (k1 * 2) 1, nwrap32 (n := k1 * 2 + 1) (by omega)]
   refine ⟨_, si_lo (k := k1) (by omega), ?_⟩
   conv => whnf
   refine ⟨_, si_hi (k := k1) (by omega), ?_⟩
   conv => whnf
   rw [nsub (a := m) (b := 3) (by omega), nwrapi (n := m - 3) (by omega)]
   refine ⟨by omega, ?_⟩
   conv => whnf
   obtain ⟨z3, hz3⟩ := part_get (xs := xs) (D := digs n u) (o := o) (m := m - 2) (j := m - 3) (by omega) (by omega) (by omega)
   refine ⟨z3, ((48 + k1 % 10 : Nat) : Int), hz3, ?_, ?_⟩
   · show [CV.val (.int .u8 ((48 + k1 % 10 : Nat) : Int))] = [CV.val (.int .u8 (((UInt8.ofNat (48 + k1 % 10)).toNat : Nat) : Int))]
     rw [u8_nat (by omega)]
   conv => whnf
   refine ⟨trivial, ?_⟩
   have e3 : (part xs (digs n u) o (m - 2)).set (o + ((m - 3 : Nat) : Int).toNat) ((48 + k1 % 10 : Nat) : Int) = part xs (digs n u) o (m - 3) := by
     rw [Int.toNat_natCast]
     have := part_step (xs := xs) (n := n) (u := u) (o := o) (m := m - 3) (p := 2) (y := ((48 + k1 % 10 : Nat) : Int)) hlen (by omega) ?_
     · rw [show m - 3 + 1 = m - 2 by omega] at this
       exact this
     · rw [show m - 3 + 2 + 1 = m by omega, ← hv]
       omega
   rw [e3]
   conv => whnf
   rw [nsub (a := m) (b := 4) (by omega), nwrapi (n := m - 4) (by omega)]
   refine ⟨by omega, ?_⟩
   conv => whnf
   obtain ⟨z4, hz4⟩ := part_get (xs := xs) (D := digs n u) (o := o) (m := m - 3) (j := m - 4) (by omega) (by omega) (by omega)
   refine ⟨z4, ((48 + k1 / 10 : Nat) : Int), hz4, ?_, ?_⟩
   · show [CV.val (.int .u8 ((48 + k1 / 10 : Nat) : Int))] = [CV.val (.int .u8 (((UInt8.ofNat (48 + k1 / 10)).toNat : Nat) : Int))]
     rw [u8_nat (by omega)]
   conv => whnf
   refine ⟨trivial, ?_⟩
   have e4 : (part xs (digs n u) o (m - 3)).set (o + ((m - 4 : Nat) : Int).toNat) ((48 + k1 / 10 : Nat) : Int) = part xs (digs n u) o (m - 4) := by
     rw [Int.toNat_natCast]
     have := part_step (xs := xs) (n := n) (u := u) (o := o) (m := m - 4) (p := 3) (y := ((48 + k1 / 10 : Nat) : Int)) hlen (by omega) ?_
     · rw [show m - 4 + 1 = m - 3 by omega] at this
       exact this
     · rw [show m - 4 + 3 + 1 = m by omega, ← hv]
       omega
   rw [e4]
   conv => whnf
   rw [nadd (k2 * 2) 1, nwrap32 (n := k2 * 2 + 1) (by omega)]
   refine ⟨_, si_lo (k := k2) (by omega), ?_⟩
   conv => whnf
   refine ⟨_, si_hi (k := k2) (by omega), ?_⟩
   conv => whnf
   rw [nsub (a := m) (b := 5) (by omega), nwrapi (n := m - 5) (by omega)]
   refine ⟨by omega, ?_⟩
   conv => whnf
   obtain ⟨z5, hz5⟩ := part_get (xs := xs) (D := digs n u) (o := o) (m := m - 4) (j := m - 5) (by omega) (by omega) (by omega)
   refine ⟨z5, ((48 + k2 % 10 : Nat) : Int), hz5, ?_, ?_⟩
   · show [CV.val (.int .u8 ((48 + k2 % 10 : Nat) : Int))] = [CV.val (.int .u8 (((UInt8.ofNat (48 + k2 % 10)).toNat : Nat) : Int))]
     rw [u8_nat (by omega)]
   conv => whnf
   refine ⟨trivial, ?_⟩
   have e5 : (part xs (digs n u) o (m - 4)).set (o + ((m - 5 : Nat) : Int).toNat) ((48 + k2 % 10 : Nat) : Int) = part xs (digs n u) o (m - 5) := by
     rw [Int.toNat_natCast]
     have := part_step (xs := xs) (n := n) (u := u) (o := o) (m := m - 5) (p := 4) (y := ((48 + k2 % 10 : Nat) : Int)) hlen (by omega) ?_
     · rw [show m - 5 + 1 = m - 4 by omega] at this
       exact this
     · rw [show m - 5 + 4 + 1 = m by omega, ← hv]
       omega
   rw [e5]
   conv => whnf
   rw [nsub (a := m) (b := 6) (by omega), nwrapi (n := m - 6) (by omega)]
   refine ⟨by omega, ?_⟩
   conv => whnf
   obtain ⟨z6, hz6⟩ := part_get (xs := xs) (D := digs n u) (o := o) (m := m - 5) (j := m - 6) (by omega) (by omega) (by omega)
   refine ⟨z6, ((48 + k2 / 10 : Nat) : Int), hz6, ?_, ?_⟩
   · show [CV.val (.int .u8 ((48 + k2 / 10 : Nat) : Int))] = [CV.val (.int .u8 (((UInt8.ofNat (48 + k2 / 10)).toNat : Nat) : Int))]
     rw [u8_nat (by omega)]
   conv => whnf
   refine ⟨trivial, ?_⟩
   have e6 : (part xs (digs n u) o (m - 5)).set (o + ((m - 6 : Nat) : Int).toNat) ((48 + k2 / 10 : Nat) : Int) = part xs (digs n u) o (m - 6) := by
     rw [Int.toNat_natCast]
     have := part_step (xs := xs) (n := n) (u := u) (o := o) (m := m - 6) (p := 5) (y := ((48 + k2 / 10 : Nat) : Int)) hlen (by omega) ?_
     · rw [show m - 6 + 1 = m - 5 by omega] at this
       exact this
     · rw [show m - 6 + 5 + 1 = m by omega, ← hv]
       omega
   rw [e6]
   conv => whnf
   rw [nadd (k3 * 2) 1, nwrap32 (n := k3 * 2 + 1) (by omega)]
   refine ⟨_, si_lo (k := k3) (by omega), ?_⟩
   conv => whnf
   refine ⟨_, si_hi (k := k3) (by omega), ?_⟩
   conv => whnf
   rw [nsub (a := m) (b := 7) (by omega), nwrapi (n := m - 7) (by omega)]
   refine ⟨by omega, ?_⟩
   conv => whnf
   obtain ⟨z7, hz7⟩ := part_get (xs := xs) (D := digs n u) (o := o) (m := m - 6) (j := m - 7) (by omega) (by omega) (by omega)
   refine ⟨z7, ((48 + k3 % 10 : Nat) : Int), hz7, ?_, ?_⟩
   · show [CV.val (.int .u8 ((48 + k3 % 10 : Nat) : Int))] = [CV.val (.int .u8 (((UInt8.ofNat (48 + k3 % 10)).toNat : Nat) : Int))]
     rw [u8_nat (by omega)]
   conv => whnf
   refine ⟨trivial, ?_⟩
   have e7 : (part xs (digs n u) o (m - 6)).set (o + ((m - 7 : Nat) : Int).toNat) ((48 + k3 % 10 : Nat) : Int) = part xs (digs n u) o (m - 7) := by
     rw [Int.toNat_natCast]
     have := part_step (xs := xs) (n := n) (u := u) (o := o) (m := m - 7) (p := 6) (y := ((48 + k3 % 10 : Nat) : Int)) hlen (by omega) ?_
     · rw [show m - 7 + 1 = m - 6 by omega] at this
       exact this
     · rw [show m - 7 + 6 + 1 = m by omega, ← hv]
       omega
   rw [e7]
   conv => whnf
   rw [nsub (a := m) (b := 8) (by omega), nwrapi (n := m - 8) (by omega)]
   refine ⟨by omega, ?_⟩
   conv => whnf
   obtain ⟨z8, hz8⟩ := part_get (xs := xs) (D := digs n u) (o := o) (m := m - 7) (j := m - 8) (by omega) (by omega) (by omega)
   refine ⟨z8, ((48 + k3 / 10 : Nat) : Int), hz8, ?_, ?_⟩
   · show [CV.val (.int .u8 ((48 + k3 / 10 : Nat) : Int))] = [CV.val (.int .u8 (((UInt8.ofNat (48 + k3 / 10)).toNat : Nat) : Int))]
     rw [u8_nat (by omega)]
   conv => whnf
   refine ⟨trivial, ?_⟩
   have e8 : (part xs (digs n u) o (m - 7)).set (o + ((m - 8 : Nat) : Int).toNat) ((48 + k3 / 10 : Nat) : Int) = part xs (digs n u) o (m - 8) := by
     rw [Int.toNat_natCast]
     have := part_step (xs := xs) (n := n) (u := u) (o := o) (m := m - 8) (p := 7) (y := ((48 + k3 / 10 : Nat) : Int)) hlen (by omega) ?_
     · rw [show m - 8 + 1 = m - 7 by omega] at this
       exact this
     · rw [show m - 8 + 7 + 1 = m by omega, ← hv]
       omega
   rw [e8]
   conv => whnf
   refine ⟨⟨m - 8, by omega⟩, ⟨[0], ⟨rfl, ⟨rfl, rfl, trivial⟩, rfl⟩, rfl, eq_u64 ?_, eq_i64 ?_, trivial⟩, ?_⟩
   · rw [← pow_next (by omega) hm, ← hv]
   · rw [nsub (by omega), nwrapi (by omega)]
   · show m - 8 < m
     omega
 · have g : m < 8 := ge_f g
   conv => whnf
   have hv8 : v < 100000000 := Nat.lt_of_lt_of_le hvm (Nat.pow_le_pow_right (by omega) (show m ≤ 8 by omega))
   rw [nwrap32 (n := v) (by omega)]
   refine Or.inr ⟨{q : Nat // q ≤ n ∧ q < 4}, fun ⟨q, _⟩ => ⟨[(0, .o (.c (.sli 0 1 o n c))), (4, .o (.c (.val (.int .i64 q)))), (12, .o (.c (.val (.int .u32 (u / 10 ^ (n - q) : Nat)))))], [arrB T (part xs (digs n u) o q)]⟩, ?_, ?_⟩
   · conv => whnf
     refine ⟨fun g4 => ?_, fun g4 => ?_⟩
     · have g4 : 4 ≤ m := ge_t g4
       conv => whnf
       rw [ntmod v 10000, ntdiv v 10000, nwrap32 (n := v / 10000) (by omega)]
       obtain ⟨y0, hy0⟩ : ∃ y, y = v % 10000 := ⟨_, rfl⟩
       rw [← hy0]
       rw [ntdiv y0 100, nwrap32 (n := y0 / 100) (by omega), nmul (y0 / 100) 2, nwrap32 (n := y0 / 100 * 2) (by omega), ntmod y0 100, nmul (y0 % 100) 2, nwrap32 (n := y0 % 100 * 2) (by omega)]
       obtain ⟨k0, hk0⟩ : ∃ y, y = y0 % 100 := ⟨_, rfl⟩
       obtain ⟨k1, hk1⟩ : ∃ y, y = y0 / 100 := ⟨_, rfl⟩
       rw [← hk0, ← hk1]
       conv => whnf
       rw [nadd (k0 * 2) 1, nwrap32 (n := k0 * 2 + 1) (by omega)]
       refine ⟨_, si_lo (k := k0) (by omega), ?_⟩
       conv => whnf
       refine ⟨_, si_hi (k := k0) (by omega), ?_⟩
       conv => whnf
       rw [nsub (a := m) (b := 1) (by omega), nwrapi (n := m - 1) (by omega)]
       refine ⟨by omega, ?_⟩
       conv => whnf
       obtain ⟨z1, hz1⟩ := part_get (xs := xs) (D := digs n u) (o := o) (m := m - 0) (j := m - 1) (by omega) (by omega) (by omega)
       refine ⟨z1, ((48 + k0 % 10 : Nat) : Int), hz1, ?_, ?_⟩
       · show [CV.val (.int .u8 ((48 + k0 % 10 : Nat) : Int))] = [CV.val (.int .u8 (((UInt8.ofNat (48 + k0 % 10)).toNat : Nat) : Int))]
         rw [u8_nat (by omega)]
       conv => whnf
       refine ⟨trivial, ?_⟩
       have e1 : (part xs (digs n u) o m).set (o + ((m - 1 : Nat) : Int).toNat) ((48 + k0 % 10 : Nat) : Int) = part xs (digs n u) o (m - 1) := by
         rw [Int.toNat_natCast]
         have := part_step (xs := xs) (n := n) (u := u) (o := o) (m := m - 1) (p := 0) (y := ((48 + k0 % 10 : Nat) : Int)) hlen (by omega) ?_
         · rw [show m - 1 + 1 = m by omega] at this
           exact this
         · rw [show m - 1 + 0 + 1 = m by omega, ← hv]
           omega
       rw [e1]
       conv => whnf
       rw [nsub (a := m) (b := 2) (by omega), nwrapi (n := m - 2) (by omega)]
       refine ⟨by omega, ?_⟩
       conv => whnf
       obtain ⟨z2, hz2⟩ := part_get (xs := xs) (D := digs n u) (o := o) (m := m - 1) (j := m - 2) (by omega) (by omega) (by omega)
       refine ⟨z2, ((48 + k0 / 10 : Nat) : Int), hz2, ?_, ?_⟩
       · show [CV.val (.int .u8 ((48 + k0 / 10 : Nat) : Int))] = [CV.val (.int .u8 (((UInt8.ofNat (48 + k0 / 10)).toNat : Nat) : Int))]
         rw [u8_nat (by omega)]
       conv => whnf
       refine ⟨trivial, ?_⟩
       have e2 : (part xs (digs n u) o (m - 1)).set (o + ((m - 2 : Nat) : Int).toNat) ((48 + k0 / 10 : Nat) : Int) = part xs (digs n u) o (m - 2) := by
         rw [Int.toNat_natCast]
         have := part_step (xs := xs) (n := n) (u := u) (o := o) (m := m - 2) (p := 1) (y := ((48 + k0 / 10 : Nat) : Int)) hlen (by omega) ?_
         · rw [show m - 2 + 1 = m - 1 by omega] at this
           exact this
         · rw [show m - 2 + 1 + 1 = m by omega, ← hv]
           omega
       rw [e2]
       conv => whnf
       rw [nadd (k1 * 2) 1, nwrap32 (n := k1 * 2 + 1) (by omega)]
       refine ⟨_, si_lo (k := k1) (by omega), ?_⟩
       conv => whnf
       refine ⟨_, si_hi (k := k1) (by omega), ?_⟩
       conv => whnf
       rw [nsub (a := m) (b := 3) (by omega), nwrapi (n := m - 3) (by omega)]
       refine ⟨by omega, ?_⟩
       conv => whnf
       obtain ⟨z3, hz3⟩ := part_get (xs := xs) (D := digs n u) (o := o) (m := m - 2) (j := m - 3) (by omega) (by omega) (by omega)
       refine ⟨z3, ((48 + k1 % 10 : Nat) : Int), hz3, ?_, ?_⟩
       · show [CV.val (.int .u8 ((48 + k1 % 10 : Nat) : Int))] = [CV.val (.int .u8 (((UInt8.ofNat (48 + k1 % 10)).toNat : Nat) : Int))]
         rw [u8_nat (by omega)]
       conv => whnf
       refine ⟨trivial, ?_⟩
       have e3 : (part xs (digs n u) o (m - 2)).set (o + ((m - 3 : Nat) : Int).toNat) ((48 + k1 % 10 : Nat) : Int) = part xs (digs n u) o (m - 3) := by
         rw [Int.toNat_natCast]
         have := part_step (xs := xs) (n := n) (u := u) (o := o) (m := m - 3) (p := 2) (y := ((48 + k1 % 10 : Nat) : Int)) hlen (by omega) ?_
         · rw [show m - 3 + 1 = m - 2 by omega] at this
           exact this
         · rw [show m - 3 + 2 + 1 = m by omega, ← hv]
           omega
       rw [e3]
       conv => whnf
       rw [nsub (a := m) (b := 4) (by omega), nwrapi (n := m - 4) (by omega)]
       refine ⟨by omega, ?_⟩
       conv => whnf
       obtain ⟨z4, hz4⟩ := part_get (xs := xs) (D := digs n u) (o := o) (m := m - 3) (j := m - 4) (by omega) (by omega) (by omega)
       refine ⟨z4, ((48 + k1 / 10 : Nat) : Int), hz4, ?_, ?_⟩
       · show [CV.val (.int .u8 ((48 + k1 / 10 : Nat) : Int))] = [CV.val (.int .u8 (((UInt8.ofNat (48 + k1 / 10)).toNat : Nat) : Int))]
         rw [u8_nat (by omega)]
       conv => whnf
       refine ⟨trivial, ?_⟩
       have e4 : (part xs (digs n u) o (m - 3)).set (o + ((m - 4 : Nat) : Int).toNat) ((48 + k1 / 10 : Nat) : Int) = part xs (digs n u) o (m - 4) := by
         rw [Int.toNat_natCast]
         have := part_step (xs := xs) (n := n) (u := u) (o := o) (m := m - 4) (p := 3) (y := ((48 + k1 / 10 : Nat) : Int)) hlen (by omega) ?_
         · rw [show m - 4 + 1 = m - 3 by omega] at this
           exact this
         · rw [show m - 4 + 3 + 1 = m by omega, ← hv]
           omega
       rw [e4]
       conv => whnf
       refine ⟨⟨m - 4, by omega, by omega⟩, ⟨[0], ⟨rfl, ⟨rfl, rfl, trivial⟩, rfl⟩, rfl, eq_i64 ?_, eq_u32 ?_, trivial⟩⟩
       · rw [nsub (by omega), nwrapi (by omega)]
       · rw [← pow_next (by omega) hm, ← hv]
     · have g4 : m < 4 := ge_f g4
       conv => whnf
       exact ⟨⟨m, hm, g4⟩, ⟨[0], ⟨rfl, ⟨rfl, rfl, trivial⟩, rfl⟩, rfl, rfl, eq_u32 (by rw [hv]), trivial⟩⟩
   clear hv8 hvm hvu hv v
   rintro ⟨m, hm, hm4⟩
   obtain ⟨v, hv⟩ : ∃ v, v = u / 10 ^ (n - m) := ⟨_, rfl⟩
   have hvm : v < 10 ^ m := by rw [hv]; exact last_small hun hm
   have hv8 : v < 10000 := Nat.lt_of_lt_of_le hvm (Nat.pow_le_pow_right (by omega) (show m ≤ 4 by omega))
   conv => whnf
   refine Or.inr ⟨{q : Nat // q ≤ n ∧ q < 2}, fun ⟨q, _⟩ => ⟨[(0, .o (.c (.sli 0 1 o n c))), (4, .o (.c (.val (.int .i64 q)))), (12, .o (.c (.val (.int .u32 (u / 10 ^ (n - q) : Nat)))))], [arrB T (part xs (digs n u) o q)]⟩, ?_, ?_⟩
   · conv => whnf
     rw [← hv]
     refine ⟨fun g4 => ?_, fun g4 => ?_⟩
     · have g4 : 2 ≤ m := ge_t g4
       conv => whnf
       rw [ntmod v 100, ntdiv v 100, nwrap32 (n := v / 100) (by omega), nmul (v % 100) 2, nwrap32 (n := v % 100 * 2) (by omega)]
       obtain ⟨k0, hk0⟩ : ∃ y, y = v % 100 := ⟨_, rfl⟩
       rw [← hk0]
       conv => whnf
       rw [nadd (k0 * 2) 1, nwrap32 (n := k0 * 2 + 1) (by omega)]
       refine ⟨_, si_lo (k := k0) (by omega), ?_⟩
       conv => whnf
       refine ⟨_, si_hi (k := k0) (by omega), ?_⟩
       conv => whnf
       rw [nsub (a := m) (b := 1) (by omega), nwrapi (n := m - 1) (by omega)]
       refine ⟨by omega, ?_⟩
       conv => whnf
       obtain ⟨z1, hz1⟩ := part_get (xs := xs) (D := digs n u) (o := o) (m := m - 0) (j := m - 1) (by omega) (by omega) (by omega)
       refine ⟨z1, ((48 + k0 % 10 : Nat) : Int), hz1, ?_, ?_⟩
       · show [CV.val (.int .u8 ((48 + k0 % 10 : Nat) : Int))] = [CV.val (.int .u8 (((UInt8.ofNat (48 + k0 % 10)).toNat : Nat) : Int))]
         rw [u8_nat (by omega)]
       conv => whnf
       refine ⟨trivial, ?_⟩
       have e1 : (part xs (digs n u) o m).set (o + ((m - 1 : Nat) : Int).toNat) ((48 + k0 % 10 : Nat) : Int) = part xs (digs n u) o (m - 1) := by
         rw [Int.toNat_natCast]
         have := part_step (xs := xs) (n := n) (u := u) (o := o) (m := m - 1) (p := 0) (y := ((48 + k0 % 10 : Nat) : Int)) hlen (by omega) ?_
         · rw [show m - 1 + 1 = m by omega] at this
           exact this
         · rw [show m - 1 + 0 + 1 = m by omega, ← hv]
           omega
       rw [e1]
       conv => whnf
       rw [nsub (a := m) (b := 2) (by omega), nwrapi (n := m - 2) (by omega)]
       refine ⟨by omega, ?_⟩
       conv => whnf
       obtain ⟨z2, hz2⟩ := part_get (xs := xs) (D := digs n u) (o := o) (m := m - 1) (j := m - 2) (by omega) (by omega) (by omega)
       refine ⟨z2, ((48 + k0 / 10 : Nat) : Int), hz2, ?_, ?_⟩
       · show [CV.val (.int .u8 ((48 + k0 / 10 : Nat) : Int))] = [CV.val (.int .u8 (((UInt8.ofNat (48 + k0 / 10)).toNat : Nat) : Int))]
         rw [u8_nat (by omega)]
       conv => whnf
       refine ⟨trivial, ?_⟩
       have e2 : (part xs (digs n u) o (m - 1)).set (o + ((m - 2 : Nat) : Int).toNat) ((48 + k0 / 10 : Nat) : Int) = part xs (digs n u) o (m - 2) := by
         rw [Int.toNat_natCast]
         have := part_step (xs := xs) (n := n) (u := u) (o := o) (m := m - 2) (p := 1) (y := ((48 + k0 / 10 : Nat) : Int)) hlen (by omega) ?_
         · rw [show m - 2 + 1 = m - 1 by omega] at this
           exact this
         · rw [show m - 2 + 1 + 1 = m by omega, ← hv]
           omega
       rw [e2]
       conv => whnf
       refine ⟨⟨m - 2, by omega, by omega⟩, ⟨[0], ⟨rfl, ⟨rfl, rfl, trivial⟩, rfl⟩, rfl, eq_i64 ?_, eq_u32 ?_, trivial⟩⟩
       · rw [nsub (by omega), nwrapi (by omega)]
       · rw [← pow_next (by omega) hm, ← hv]
     · have g4 : m < 2 := ge_f g4
       conv => whnf
       exact ⟨⟨m, hm, g4⟩, ⟨[0], ⟨rfl, ⟨rfl, rfl, trivial⟩, rfl⟩, rfl, rfl, eq_u32 (by rw [hv]), trivial⟩⟩
   clear hv8 hvm hv v
   rintro ⟨m, hm, hm4⟩
   obtain ⟨v, hv⟩ : ∃ v, v = u / 10 ^ (n - m) := ⟨_, rfl⟩
   have hvm : v < 10 ^ m := by rw [hv]; exact last_small hun hm
   have hv8 : v < 10 := Nat.lt_of_lt_of_le hvm (Nat.pow_le_pow_right (by omega) (show m ≤ 1 by omega))
   conv => whnf
   rw [← hv]
   refine ⟨fun g4 => ?_, fun g4 => ?_⟩
   · have g4 : 0 < m := gt_t g4
     obtain rfl : m = 1 := by omega
     conv => whnf
     refine ⟨by omega, ?_⟩
     conv => whnf
     obtain ⟨z, hz⟩ := part_get (xs := xs) (D := digs n u) (o := o) (m := 1) (j := 0) (by omega) (by omega) (by omega)
     refine ⟨z, ((48 + v : Nat) : Int), hz, ?_, ?_⟩
     · show [CV.val (.int .u8 ((48 + v : Nat) : Int))] = [CV.val (.int .u8 (IntKind.u8.wrap (IntKind.u32.wrap (((48 : Nat) : Int) + (v : Int)))))]
       rw [nadd, nwrap32 (by omega), nwrap8 (by omega)]
     conv => whnf
     refine Or.inl ⟨rfl, ?_⟩
     have := part_step (xs := xs) (n := n) (u := u) (o := o) (m := 0) (p := 0) (y := ((48 + v : Nat) : Int)) hlen (by omega) (by rw [show n - (0 + 0 + 1) = n - 1 by omega, ← hv, Nat.pow_zero, Nat.div_one]; omega)
     rw [← this]
     rfl
   · have g4 : m ≤ 0 := gt_f g4
     obtain rfl : m = 0 := by omega
     conv => whnf
     exact Or.inl ⟨rfl, rfl⟩
end Go.Proofs.YtokkphocaloelaaGreatDoor

end
section
namespace Go.Proofs.YtokkphocaloelaaGreatDoor
open Go Go.Vc
set_option maxRecDepth 100000
set_option maxHeartbeats 8000000

theorem strOf_size' (l : List Int) : (strOf l).size = l.length := by
 have : ∀ (l : List Int) (r : ByteArray), (l.foldl (fun r n => r.push (UInt8.ofNat n.toNat)) r).size = r.size + l.length := by
   intro l
   induction l with
   | nil => intro r; rfl
   | cons x l ih =>
     intro r
     rw [List.foldl_cons, ih, ByteArray.size_push, List.length_cons]
     omega
 rw [strOf, this]
 show 0 + l.length = l.length
 omega
def fmtL (x : Int) : List Int :=
 if x < 0 then 45 :: digs (ndig x.natAbs) x.natAbs
 else if x < 10 then digs 1 x.toNat
 else if x < 100 then digs 2 x.toNat
 else digs (ndig x.natAbs) x.natAbs
theorem fmtL_len {x : Int} (h : x.natAbs < 18446744073709551616) : (fmtL x).length ≤ 21 := by
 have := ndig_le h
 unfold fmtL
 split
 · rw [List.length_cons, digs_len]; omega
 split
 · rw [digs_len]; omega
 split
 · rw [digs_len]; omega
 · rw [digs_len]; omega
theorem arr_part (D : List Int) : part (List.replicate 24 0) D 1 0 = 0 :: (D ++ (List.replicate 24 (0 : Int)).drop (1 + D.length)) := rfl
theorem iFmtIntW (w0 : World) (hp : pows w0) {x : Int} (h1 : -9223372036854775808 ≤ x) (h2 : x < 9223372036854775808) : CallsA Tryz.prog w0 57 [.c (.val (.int .i64 x)), .c (.val (.int .i64 ((10 : Nat) : Int)))] [] fun r H => r = .o (.c (.val (.string (strOf (fmtL x))))) ∧ H = [] := by
 refine callsA_of_ev c57_ ?_
 conv => whnf
 refine Or.inl ?_
 conv => whnf
 refine ⟨fun _ => ?_, fun g => absurd g (by decide)⟩
 conv => whnf
 refine Or.inr ⟨{_q : Unit // ¬ (0 ≤ x ∧ x < 100)}, fun _ => ⟨[(0, .o (.c (.val (.int .i64 x))))], []⟩, ?_, ?_⟩
 · have hsm : 0 ≤ x → x < 100 → CallsA Tryz.prog w0 98 [.c (.val (.int .i64 x))] [] fun r H' => r = .o (.c (.val (.string (strOf (fmtL x))))) ∧ H' = [] := by
     intro g1 g2
     have := smallW w0 [] (n := x.toNat) (by omega)
     rw [Int.toNat_of_nonneg g1] at this
     have e : (if x.toNat < 10 then digs 1 x.toNat else digs 2 x.toNat) = fmtL x := by
       unfold fmtL
       rw [if_neg (show ¬ x < 0 by omega)]
       by_cases h : x < 10
       · rw [if_pos (show x.toNat < 10 by omega), if_pos h]
       · rw [if_neg (show ¬ x.toNat < 10 by omega), if_neg h, if_pos g2]
     rw [e] at this
     exact this
   conv => whnf
   refine ⟨fun g => ?_, fun g => ?_⟩
   · have g : (0 : Int) ≤ x := of_decide_eq_true g
     conv => whnf
     refine ⟨fun g2 => ?_, fun g2 => ?_⟩
     · have g2 : x < 100 := of_decide_eq_true g2
       conv => whnf
       refine (hsm g g2).mono ?_
       rintro _ _ ⟨rfl, rfl⟩
       conv => whnf
       exact Or.inl ⟨rfl, rfl⟩
     · have g2 : ¬ x < 100 := of_decide_eq_false g2
       conv => whnf
       exact ⟨⟨(), fun h => g2 h.2⟩, [], ⟨rfl, trivial, rfl⟩, rfl, trivial⟩
   · have g : ¬ (0 : Int) ≤ x := of_decide_eq_false g
     conv => whnf
     exact ⟨⟨(), fun h => g h.1⟩, [], ⟨rfl, trivial, rfl⟩, rfl, trivial⟩
 rintro ⟨⟨⟩, hx⟩
 obtain ⟨u, hu⟩ : ∃ u, u = x.natAbs := ⟨_, rfl⟩
 obtain ⟨nd, hnd⟩ : ∃ nd, nd = ndig u := ⟨_, rfl⟩
 have hu2 : u < 18446744073709551616 := by omega
 have hnd20 : nd ≤ 20 := by rw [hnd]; exact ndig_le hu2
 have hnd1 : 1 ≤ nd := by rw [hnd]; exact ndig_pos (by omega) hu2
 have hun : u < 10 ^ nd := by rw [hnd]; exact lt_ndig hu2
 have hrep : (List.replicate 24 (0 : Int)).length = 24 := List.length_replicate
 have hb10 := base10W w0 (T := 180) (xs := List.replicate 24 0) (o := 1) (n := nd) (c := 23) (u := u) (by omega) hnd20 hu2 hun
 have hdl := digs_len nd u
 conv => whnf
 refine Or.inr ⟨Int, encI .u8, [], 1, List.replicate 24 0, by omega, fun _ => rfl, rfl, by rw [hrep]; omega, ?_⟩
 conv => whnf
 refine Or.inr ⟨Unit, fun _ => ⟨[(0, .o (.c (.val (.int .i64 x)))), (5, .o (.c (.ptr 0 0))), (6, .o (.c (.val (.int .u64 u))))], [arrB 180 (List.replicate 24 0)]⟩, ?_, ?_⟩
 · conv => whnf
   refine ⟨fun g => ?_, fun g => ?_⟩
   · have g : x < 0 := of_decide_eq_true g
     conv => whnf
     refine ⟨(), [0], ⟨rfl, ⟨rfl, rfl, trivial⟩, rfl⟩, rfl, rfl, eq_u64 ?_, trivial⟩
     rw [IntKind.wrap_u64, IntKind.wrap_u64]
     omega
   · have g : ¬ x < 0 := of_decide_eq_false g
     conv => whnf
     refine ⟨(), [0], ⟨rfl, ⟨rfl, rfl, trivial⟩, rfl⟩, rfl, rfl, eq_u64 ?_, trivial⟩
     rw [IntKind.wrap_u64]
     omega
 rintro ⟨⟩
 conv => whnf
 refine (numDigitsW w0 _ hp hu2).mono ?_
 rintro _ _ ⟨rfl, rfl⟩
 rw [← hnd]
 conv => whnf
 rw [nadd 1 nd, nwrapi (n := 1 + nd) (by omega)]
 refine ⟨⟨⟨by omega, by omega, by omega⟩, by omega⟩, ?_⟩
 conv => whnf
 have e1 : ((1 + nd : Nat) : Int).toNat - ((1 : Nat) : Int).toNat = nd := by omega
 rw [e1]
 refine hb10.mono ?_
 rintro _ _ ⟨rfl, rfl⟩
 rw [arr_part]
 conv => whnf
 refine Or.inl ?_
 conv => whnf
 refine ⟨fun g => ?_, fun g => ?_⟩
 · have g : x < 0 := of_decide_eq_true g
   conv => whnf
   refine ⟨by omega, ?_⟩
   conv => whnf
   refine ⟨0, 45, rfl, rfl, ?_⟩
   conv => whnf
   rw [nadd 1 nd, nwrapi (n := 1 + nd) (by omega)]
   refine ⟨⟨⟨by omega, by omega⟩, by omega⟩, Or.inl ?_⟩
   conv => whnf
   refine ⟨trivial, 45 :: digs nd u, ⟨rfl, rfl, ?_, ?_, ?_⟩, ?_⟩
   · show 0 + ((1 + nd : Nat) : Int).toNat ≤ (45 :: (digs nd u ++ (List.replicate 24 (0 : Int)).drop (1 + (digs nd u).length))).length
     rw [List.length_cons, List.length_append]
     omega
   · show (45 :: digs nd u).length = _
     rw [List.length_cons]
     omega
   · show flat (encI .u8) [] _ = flat (encI .u8) [] (List.take ((1 + nd : Nat) : Int).toNat (45 :: (digs nd u ++ (List.replicate 24 (0 : Int)).drop (1 + (digs nd u).length))))
     rw [Int.toNat_natCast, Nat.add_comm, List.take_succ_cons, List.take_append_of_le_length (by omega), List.take_of_length_le (by omega)]
   · conv => whnf
     refine Or.inr ⟨[], .o (.c (.val (.string (strOf (fmtL x))))), [], ⟨rfl, trivial, rfl⟩, ?_, rfl, rfl⟩
     unfold fmtL
     rw [if_pos g, ← hu, ← hnd]
     rfl
 · have g : ¬ x < 0 := of_decide_eq_false g
   conv => whnf
   rw [nadd 1 nd, nwrapi (n := 1 + nd) (by omega)]
   refine ⟨⟨⟨by omega, by omega, by omega⟩, by omega⟩, ?_⟩
   conv => whnf
   rw [e1]
   refine ⟨trivial, digs nd u, ⟨rfl, rfl, ?_, hdl, ?_⟩, ?_⟩
   · show 1 + nd ≤ (0 :: (digs nd u ++ (List.replicate 24 (0 : Int)).drop (1 + (digs nd u).length))).length
     rw [List.length_cons, List.length_append]
     omega
   · show flat (encI .u8) [] _ = flat (encI .u8) [] (List.take nd (digs nd u ++ (List.replicate 24 (0 : Int)).drop (1 + (digs nd u).length)))
     rw [List.take_append_of_le_length (by omega), List.take_of_length_le (by omega)]
   · conv => whnf
     refine Or.inr ⟨[], .o (.c (.val (.string (strOf (fmtL x))))), [], ⟨rfl, trivial, rfl⟩, ?_, rfl, rfl⟩
     unfold fmtL
     rw [if_neg g, if_neg (show ¬ x < 10 by omega), if_neg (show ¬ x < 100 by omega), ← hu, ← hnd]
     rfl
theorem fmtIntW (w0 : World) (hp : pows w0) {x : Int} (h1 : -9223372036854775808 ≤ x) (h2 : x < 9223372036854775808) : CallsA Tryz.prog w0 32 [.c (.val (.int .i64 x)), .c (.val (.int .i64 ((10 : Nat) : Int)))] [] fun r H => r = .o (.c (.val (.string (strOf (fmtL x))))) ∧ H = [] := by
 refine callsA_of_ev c32_ ?_
 conv => whnf
 refine (iFmtIntW w0 hp h1 h2).mono ?_
 rintro _ _ ⟨rfl, rfl⟩
 conv => whnf
 exact Or.inl ⟨rfl, rfl⟩
theorem strOf_fold' (b : List Int) : ∀ r : ByteArray, b.foldl (fun r n => r.push (UInt8.ofNat n.toNat)) r = r ++ strOf b := by
 induction b with
 | nil =>
   intro r
   show r = r ++ ByteArray.empty
   rw [ByteArray.append_empty]
 | cons x t ih =>
   intro r
   show t.foldl _ (r.push _) = r ++ t.foldl _ (ByteArray.empty.push _)
   rw [ih, ih, ← ByteArray.append_assoc]
   congr 1
   apply ByteArray.ext
   simp
theorem strOf_append' (a b : List Int) : strOf (a ++ b) = strOf a ++ strOf b := by
 show (a ++ b).foldl _ ByteArray.empty = _
 rw [List.foldl_append, strOf_fold']
 rfl
end Go.Proofs.YtokkphocaloelaaGreatDoor

end
section
namespace Go.Proofs.YtokkphocaloelaaGreatDoor
open Go Go.Vc
set_option maxRecDepth 100000
set_option maxHeartbeats 8000000

def fmtU (u : Nat) : List Int := if u < 10 then digs 1 u else if u < 100 then digs 2 u else digs (ndig u) u
theorem fmtU_len {u : Nat} (h : u < 18446744073709551616) : (fmtU u).length ≤ 20 := by
 have := ndig_le h
 unfold fmtU
 split
 · rw [digs_len]; omega
 split
 · rw [digs_len]; omega
 · rw [digs_len]; omega
theorem arr_part0 (D : List Int) : part (List.replicate 24 0) D 0 0 = D ++ (List.replicate 24 (0 : Int)).drop D.length := by
 unfold part
 simp
theorem iFmtUintW (w0 : World) (hp : pows w0) {u : Nat} (hu2 : u < 18446744073709551616) : CallsA Tryz.prog w0 56 [.c (.val (.int .u64 (u : Nat))), .c (.val (.int .i64 ((10 : Nat) : Int)))] [] fun r H => r = .o (.c (.val (.string (strOf (fmtU u))))) ∧ H = [] := by
 refine callsA_of_ev c56_ ?_
 conv => whnf
 refine Or.inl ?_
 conv => whnf
 refine ⟨fun _ => ?_, fun g => absurd g (by decide)⟩
 conv => whnf
 refine Or.inl ?_
 conv => whnf
 refine ⟨fun g => ?_, fun g => ?_⟩
 · have g : u < 100 := lt_t (b := 100) g
   conv => whnf
   rw [nwrapi (n := u) (by omega)]
   refine (smallW w0 [] (n := u) g).mono ?_
   rintro _ _ ⟨rfl, rfl⟩
   conv => whnf
   refine Or.inl ⟨?_, rfl⟩
   unfold fmtU
   by_cases h : u < 10
   · rw [if_pos h, if_pos h]; rfl
   · rw [if_neg h, if_neg h, if_pos g]; rfl
 have g : ¬ u < 100 := fun h => absurd (lt_f (b := 100) g) (by omega)
 obtain ⟨nd, hnd⟩ : ∃ nd, nd = ndig u := ⟨_, rfl⟩
 have hnd20 : nd ≤ 20 := by rw [hnd]; exact ndig_le hu2
 have hnd1 : 1 ≤ nd := by rw [hnd]; exact ndig_pos (by omega) hu2
 have hun : u < 10 ^ nd := by rw [hnd]; exact lt_ndig hu2
 have hrep : (List.replicate 24 (0 : Int)).length = 24 := List.length_replicate
 have hb10 := base10W w0 (T := 180) (xs := List.replicate 24 0) (o := 0) (n := nd) (c := 24) (u := u) (by omega) hnd20 hu2 hun
 have hdl := digs_len nd u
 conv => whnf
 refine Or.inr ⟨Int, encI .u8, [], 1, List.replicate 24 0, by omega, fun _ => rfl, rfl, by rw [hrep]; omega, ?_⟩
 conv => whnf
 refine (numDigitsW w0 _ hp hu2).mono ?_
 rintro _ _ ⟨rfl, rfl⟩
 rw [← hnd]
 conv => whnf
 refine ⟨⟨⟨by omega, by omega⟩, by omega⟩, Or.inl ?_⟩
 rw [Int.toNat_natCast]
 conv => whnf
 refine hb10.mono ?_
 rintro _ _ ⟨rfl, rfl⟩
 rw [arr_part0]
 conv => whnf
 refine ⟨⟨⟨by omega, by omega⟩, by omega⟩, Or.inl ?_⟩
 rw [Int.toNat_natCast]
 conv => whnf
 refine ⟨trivial, digs nd u, ⟨rfl, rfl, ?_, hdl, ?_⟩, ?_⟩
 · show 0 + nd ≤ (digs nd u ++ (List.replicate 24 (0 : Int)).drop (digs nd u).length).length
   rw [List.length_append]
   omega
 · show flat (encI .u8) [] _ = flat (encI .u8) [] (List.take nd (digs nd u ++ (List.replicate 24 (0 : Int)).drop (digs nd u).length))
   rw [List.take_append_of_le_length (by omega), List.take_of_length_le (by omega)]
 · conv => whnf
   refine Or.inr ⟨[], .o (.c (.val (.string (strOf (fmtU u))))), [], ⟨rfl, trivial, rfl⟩, ?_, rfl, rfl⟩
   unfold fmtU
   rw [if_neg (show ¬ u < 10 by omega), if_neg g, ← hnd]
   rfl
theorem fmtUintW (w0 : World) (hp : pows w0) {u : Nat} (hu2 : u < 18446744073709551616) : CallsA Tryz.prog w0 31 [.c (.val (.int .u64 (u : Nat))), .c (.val (.int .i64 ((10 : Nat) : Int)))] [] fun r H => r = .o (.c (.val (.string (strOf (fmtU u))))) ∧ H = [] := by
 refine callsA_of_ev c31_ ?_
 conv => whnf
 refine (iFmtUintW w0 hp hu2).mono ?_
 rintro _ _ ⟨rfl, rfl⟩
 conv => whnf
 exact Or.inl ⟨rfl, rfl⟩
end Go.Proofs.YtokkphocaloelaaGreatDoor

end
section
namespace Go.Proofs.YtokkphocaloelaaGreatDoor
open Go Go.Vc
set_option maxRecDepth 100000
set_option maxHeartbeats 8000000

def txtU (u : Nat) : List Int := if u < 9223372036854775808 then fmtL (u : Int) else fmtU u
def numU (u : Nat) : List Int := txtU u ++ [32]
def numsUL (l : List Nat) : List Int := 91 :: l.flatMap numU ++ [93]
theorem txtU_len {u : Nat} (h : u < 18446744073709551616) : (txtU u).length ≤ 21 := by
 unfold txtU
 split
 · exact fmtL_len (by omega)
 · have := fmtU_len h; omega
theorem numU_len : ∀ {l : List Nat}, (∀ x ∈ l, x < 18446744073709551616) → (l.flatMap numU).length ≤ 22 * l.length
 | [], _ => Nat.zero_le _
 | x :: l, h => by
   have h1 := numU_len (l := l) fun y hy => h y (List.mem_cons_of_mem _ hy)
   have h2 := txtU_len (u := x) (h x (List.mem_cons_self ..))
   rw [List.flatMap_cons, List.length_append, List.length_cons]
   unfold numU at h1 ⊢
   rw [List.length_append]
   show _ + 1 + _ ≤ _
   omega
def nuS (t : List Int) (n j : Nat) : Env := [(3, .o (.c (.val (.string (strOf t))))), (6, .o (.c (.vec 0 n))), (7, .o (.c (.val (.int .i64 n)))), (8, .o (.c (.val (.int .i64 j))))]
theorem nuT {j : Nat} (l : List Nat) (h : l.length ≤ j) : l.take j = l := List.take_of_length_le h
theorem numsUW (w0 : World) (hp : pows w0) {l : List Nat} (hl : l.length ≤ 1099511627776) (hx : ∀ x ∈ l, x < 18446744073709551616) : CallsA Tryz.prog w0 14 [.c (.vec 0 l.length)] [grB l] fun r H => r = .o (.c (.val (.string (strOf (numsUL l))))) ∧ H = [grB l] := by
 refine callsA_of_ev c14_ ?_
 conv => whnf
 refine Or.inl ?_
 conv => whnf
 refine ⟨{j : Nat // j ≤ l.length}, fun ⟨j, _⟩ => ⟨nuS (91 :: (l.take j).flatMap numU) l.length j, [grB l]⟩, fun j => l.length - j.1, ⟨⟨0, Nat.zero_le _⟩, [0], ⟨rfl, ⟨rfl, rfl, trivial⟩, rfl⟩, rfl, rfl, rfl, rfl, trivial⟩, fun ⟨j, hj⟩ => ?_⟩
 conv => whnf
 refine ⟨fun h3 => ?_, fun h3 => ?_⟩
 · have h3 : j < l.length := lt_t h3
   obtain ⟨x, hxj⟩ : ∃ x, l[j]? = some x := ⟨_, List.getElem?_eq_getElem h3⟩
   have hx2 := hx x (List.mem_of_getElem? hxj)
   have hxn : ∀ y ∈ l.take j, y < 18446744073709551616 := fun y hy => hx y (List.mem_of_mem_take hy)
   have hsz := numU_len hxn
   have hfl := txtU_len hx2
   have hlt : (l.take j).length ≤ j := by rw [List.length_take]; omega
   have hrow : (l.map fun (n : Nat) => (n : Int))[j]? = some (x : Int) := by rw [List.getElem?_map, hxj]; rfl
   have fin1 : strOf (91 :: (l.take j).flatMap numU) ++ (strOf (txtU x) ++ strOf [32]) = strOf (91 :: (l.take (j + 1)).flatMap numU) := by
     rw [← strOf_append', ← strOf_append', List.cons_append, List.take_add_one, hxj, Option.toList_some, List.flatMap_append, List.flatMap_singleton]
     rfl
   have sz1 : (strOf (txtU x)).size + (ByteArray.mk #[32]).size ≤ 9223372036854775807 := by
     rw [strOf_size']
     show (txtU x).length + 1 ≤ _
     omega
   have sz2 : (strOf (91 :: (l.take j).flatMap numU)).size + (strOf (txtU x) ++ strOf [32]).size ≤ 9223372036854775807 := by
     rw [← strOf_append', strOf_size', strOf_size', List.length_append, List.length_cons]
     show _ + 1 + (_ + 1) ≤ _
     omega
   conv => whnf
   refine Or.inr ⟨Unit, fun _ => ⟨nuS (91 :: (l.take (j + 1)).flatMap numU) l.length j, [grB l]⟩, ?_, fun _ => ?_⟩
   · conv => whnf
     refine ⟨⟨Int.natCast_nonneg j, Int.ofNat_lt.2 h3⟩, ?_⟩
     conv => whnf
     refine ⟨_, hrow, ?_⟩
     conv => whnf
     refine Or.inl ?_
     conv => whnf
     refine ⟨fun g => ?_, fun g => ?_⟩
     · have g : 9223372036854775808 ≤ x := ge_t (b := 9223372036854775808) g
       have ht : fmtU x = txtU x := by unfold txtU; rw [if_neg (show ¬ x < 9223372036854775808 by omega)]
       conv => whnf
       refine ⟨fun _ => ?_, fun g2 => absurd (gt_f (b := 0) g2) (by omega)⟩
       conv => whnf
       refine (CallsA_frame rfl rfl (fmtUintW w0 hp hx2) _).mono ?_
       rintro _ _ ⟨rfl, rfl⟩
       rw [ht]
       conv => whnf
       refine ⟨sz1, ?_⟩
       conv => whnf
       refine ⟨sz2, ?_⟩
       conv => whnf
       exact ⟨(), [0], ⟨rfl, ⟨rfl, rfl, trivial⟩, rfl⟩, congrArg (fun z => some (AV.o (.c (.val (.string z))))) fin1, rfl, rfl, rfl, trivial⟩
     · have g : x < 9223372036854775808 := ge_f (b := 9223372036854775808) g
       have ht : fmtL (x : Int) = txtU x := by unfold txtU; rw [if_pos g]
       conv => whnf
       rw [nwrapi (n := x) g]
       refine (CallsA_frame rfl rfl (fmtIntW w0 hp (x := (x : Int)) (by omega) (by omega)) _).mono ?_
       rintro _ _ ⟨rfl, rfl⟩
       rw [ht]
       conv => whnf
       refine ⟨sz1, ?_⟩
       conv => whnf
       refine ⟨sz2, ?_⟩
       conv => whnf
       exact ⟨(), [0], ⟨rfl, ⟨rfl, rfl, trivial⟩, rfl⟩, congrArg (fun z => some (AV.o (.c (.val (.string z))))) fin1, rfl, rfl, rfl, trivial⟩
   conv => whnf
   exact ⟨⟨j + 1, h3⟩, ⟨[0], ⟨rfl, ⟨rfl, rfl, trivial⟩, rfl⟩, rfl, rfl, rfl, eq_i64 (by rw [nadd, nwrapi (by omega)]), trivial⟩, by show l.length - (j + 1) < l.length - j; omega⟩
 · have h3 : l.length ≤ j := lt_f h3
   have hsz := numU_len hx
   obtain ⟨l2, hl2⟩ : ∃ l2, l2 = l.take j := ⟨_, rfl⟩
   rw [← hl2]
   obtain rfl : l2 = l := hl2.trans (nuT l h3)
   conv => whnf
   refine ⟨?_, ?_⟩
   · show (strOf (91 :: l2.flatMap numU)).size + 1 ≤ 9223372036854775807
     rw [strOf_size', List.length_cons]
     omega
   conv => whnf
   refine Or.inl ⟨?_, rfl⟩
   show AV.o (.c (.val (.string (strOf (91 :: l2.flatMap numU) ++ strOf [93])))) = _
   rw [← strOf_append']
   rfl
end Go.Proofs.YtokkphocaloelaaGreatDoor

end
section
namespace Go.Proofs.YtokkphocaloelaaGreatDoor
open Go Go.Vc
set_option maxRecDepth 100000
set_option maxHeartbeats 8000000

theorem encAll_byt : ∀ (ps : List Pg), (∀ p ∈ ps, p.good) → Byt (encAll ps)
 | [], _ => fun _x hx => (List.not_mem_nil hx).elim
 | p :: r, h => (pgEnc_byt (h p (List.mem_cons_self ..))).append (encAll_byt r fun q hq => h q (List.mem_cons_of_mem _ hq))
theorem encAll_add (a b : List Pg) : encAll (a ++ b) = encAll a ++ encAll b := by
 unfold encAll
 rw [List.map_append, List.flatten_append]
theorem pageI_enc {p : Pg} (hg : p.good) {R : List Int} (hR : Byt R) : ∃ g, pageI (pgEnc p ++ R) = some (g, R) ∧ g.segs = p.segs ∧ pgEl g = lcdOf p ∧ Reads (strOf (pgEnc p ++ R)) p (pgEnc p).length g := by
 have hb : Byt (pgEnc p ++ R) := (pgEnc_byt hg).append hR
 have hbs := bytes_str hb
 obtain ⟨g, h1, h2⟩ := pageP_I (pageP_enc hg (b := strOf (pgEnc p ++ R)) (rest := R) hbs)
 rw [hbs, List.drop_left' rfl] at h1
 have hs : g.segs = p.segs := by
   have hpar : p.pts = join g.segs [] := h2.par
   unfold Pg.segs
   rw [hpar]
   by_cases he : g.segs = []
   · rw [he]
     rfl
   · rw [lace_join g.segs [] 0 p.more he h2.len rfl h2.las]
     rfl
 refine ⟨g, h1, hs, ?_, h2⟩
 unfold pgEl lcdOf
 rw [hs, h2.gra]
theorem allI_enc : ∀ (ps : List Pg), (∀ p ∈ ps, p.good) → ∀ {T : List Int}, Byt T → pageI T = none → allI (encAll ps ++ T) = (ps.map lcdOf, T)
 | [], _, T, _, hn => allI_none hn
 | p :: r, hg, T, hb, hn => by
   have hgr : ∀ q ∈ r, q.good := fun q hq => hg q (List.mem_cons_of_mem _ hq)
   obtain ⟨g, h1, _, h2, _⟩ := pageI_enc (hg p (List.mem_cons_self ..)) (R := encAll r ++ T) ((encAll_byt r hgr).append hb)
   have e : encAll (p :: r) ++ T = pgEnc p ++ (encAll r ++ T) := List.append_assoc ..
   rw [e, allI_some h1, allI_enc r hgr hb hn, h2]
   rfl
theorem oggR_enc : ∀ (ps : List Pg), (∀ p ∈ ps, p.good) → ∀ {b : ByteArray} {T : List Int}, bytesOf b = encAll ps ++ T → pageI T = none → oggR b = (ps, T.isEmpty)
 | [], _, b, T, hb, hn => by
   have hb : bytesOf b = T := hb
   have hl := bytesOf_len b
   by_cases h0 : b.size = 0
   · have hT : T = [] := by
       rw [← hb]
       exact List.eq_nil_of_length_eq_zero (by omega)
     rw [oggR_nil h0, hT]
     rfl
   · rw [oggR_step h0]
     cases hp : pageP b with
     | none =>
       cases T with
       | nil => rw [hb] at hl; exact absurd hl.symm h0
       | cons _ _ => rfl
     | some x =>
       obtain ⟨p, k⟩ := x
       obtain ⟨g, h1, _⟩ := pageP_I hp
       rw [hb, hn] at h1
       cases h1
 | p :: r, hg, b, T, hb, hn => by
   have hgr : ∀ q ∈ r, q.good := fun q hq => hg q (List.mem_cons_of_mem _ hq)
   have hgp := hg p (List.mem_cons_self ..)
   have e : encAll (p :: r) ++ T = pgEnc p ++ (encAll r ++ T) := List.append_assoc ..
   rw [e] at hb
   have hl := bytesOf_len b
   have hpl := pgEnc_len hgp
   have hbl : (bytesOf b).length = (pgEnc p).length + (encAll r ++ T).length := by rw [hb, List.length_append]
   rw [oggR_step (by omega), pageP_enc hgp hb]
   have hr : bytesOf (b.extract (pgEnc p).length b.size) = encAll r ++ T := by
     rw [bytes_ext, List.take_of_length_le (by omega), hb, List.drop_left' rfl]
   simp only [oggR_enc r hgr hr hn]
theorem pageI_nil : pageI [] = none := by
 unfold pageI
 rw [if_pos (show ([] : List Int).length < 27 by decide)]
theorem cut_enc : ∀ (ps : List Pg), (∀ p ∈ ps, p.good) → ∀ {n : Nat}, n < (encAll ps).length → ∃ qs T, (∀ q ∈ qs, q ∈ ps) ∧ (encAll ps).take n = encAll qs ++ T ∧ pageI T = none ∧ Byt T
 | [], _, n, h => absurd h (Nat.not_lt_zero _)
 | p :: r, hg, n, h => by
   have hgr : ∀ q ∈ r, q.good := fun q hq => hg q (List.mem_cons_of_mem _ hq)
   have hgp := hg p (List.mem_cons_self ..)
   have e : encAll (p :: r) = pgEnc p ++ encAll r := rfl
   rw [e, List.length_append] at h
   by_cases hn : n < (pgEnc p).length
   · exact ⟨[], (pgEnc p).take n, fun q hq => (List.not_mem_nil hq).elim, by rw [e, List.take_append_of_le_length (by omega)]; rfl, pageI_cut hgp hn, (pgEnc_byt hgp).take _⟩
   · obtain ⟨qs, T, h1, h2, h3, h4⟩ := cut_enc r hgr (n := n - (pgEnc p).length) (by omega)
     refine ⟨p :: qs, T, fun q hq => ?_, ?_, h3, h4⟩
     · rcases List.mem_cons.1 hq with rfl | hq
       · exact List.mem_cons_self ..
       · exact List.mem_cons_of_mem _ (h1 q hq)
     · rw [e, List.take_append, List.take_of_length_le (by omega), h2]
       exact (List.append_assoc ..).symm
theorem full_len : ∀ (n : Nat) (x : List Int), (full n x).length = n
 | 0, _ => rfl
 | n + 1, x => by show (full n _).length + 1 = n + 1; rw [full_len n]
theorem one_lace {x : List Int} (h : x.length / 255 < 256) : OneP (lace false [x]) (x.length / 255) := by
 have e : lace false [x] = lc x ++ [lr x] := by
   show lc x ++ (if ([] : List (List Int)) = [] ∧ false = true then [] else [lr x]) ++ [] = _
   rw [if_neg (by simp), List.append_nil]
 have hl : (lc x).length = x.length / 255 := full_len _ _
 rw [e]
 refine ⟨by rw [List.length_append, hl]; rfl, h, fun i y hy => ?_⟩
 rcases Nat.lt_or_ge i (x.length / 255) with hi | hi
 · rw [List.getElem?_append_left (by omega), lc_get hi] at hy
   cases hy
   rw [List.length_take, List.length_drop]
   omega
 · rw [List.getElem?_append_right (by omega)] at hy
   have h0 : i - (lc x).length = 0 := by
     rcases Nat.eq_zero_or_pos (i - (lc x).length) with h0 | h0
     · exact h0
     · rw [List.getElem?_eq_none (by simp; omega)] at hy
       cases hy
   rw [h0] at hy
   cases hy
   have := lr_len x
   omega
theorem Hd.text_list {h : Hd} (h1 : h.text.2 = 1) (_hr : h.rate < 4294967296) : ∃ Y : List Int, bytesOf h.text.1 = h.fix ++ Y ∧ ((h.map = 0 ∧ Y = []) ∨ ((h.map = 1 ∨ h.map = 255) ∧ Y.length = 2 + h.ch.toNat ∧ Y = [h.str, h.cou] ++ bytesOf h.mapping)) ∧ Byt h.fix ∧ 1 ≤ h.ch ∧ h.ch ≤ 255 ∧ 0 ≤ h.map ∧ h.map ≤ 255 := by
 unfold Hd.text at h1 ⊢
 by_cases c1 : h.bad
 · rw [if_pos c1] at h1
   exact absurd h1 (by decide)
 rw [if_neg c1] at h1 ⊢
 unfold Hd.bad at c1
 have hfb : Byt h.fix := by
   unfold Hd.fix
   refine Byt.append (Byt.append (Byt.append (Byt.append (Byt.append ?_ ?_) (byt_leL _ _)) (byt_leL _ _)) (byt_leL _ _)) ?_
   · unfold opusHead
     intro x hx
     simp at hx
     omega
   · intro x hx
     simp at hx
     omega
   · intro x hx
     simp at hx
     omega
 by_cases c2 : h.map = 0
 · rw [if_pos c2]
   exact ⟨[], by rw [List.append_nil]; exact bytes_str hfb, .inl ⟨c2, rfl⟩, hfb, by omega, by omega, by omega, by omega⟩
 rw [if_neg c2] at h1 ⊢
 by_cases c3 : h.bad2
 · rw [if_pos c3] at h1
   exact absurd h1 (by decide)
 rw [if_neg c3]
 unfold Hd.bad2 at c3
 have hsc : Byt [h.str, h.cou] := by
   intro x hx
   simp at hx
   omega
 refine ⟨[h.str, h.cou] ++ bytesOf h.mapping, ?_, .inr ⟨by omega, ?_, rfl⟩, hfb, by omega, by omega, by omega, by omega⟩
 · show bytesOf (strOf (h.fix ++ [h.str, h.cou]) ++ h.mapping) = _
   rw [bytes_add, bytes_str (hfb.append hsc), List.append_assoc]
 · rw [List.length_append, bytesOf_len]
   simp only [List.length_cons, List.length_nil]
   omega
theorem Hd.fix_len (h : Hd) : h.fix.length = 19 := by
 unfold Hd.fix opusHead
 simp only [List.length_append, leL_len, List.length_cons, List.length_nil]
theorem bt_app {A B : List Int} {i : Nat} (h : i < A.length) : bt (A ++ B) i = bt A i := by
 unfold bt
 rw [List.getD_eq_getElem?_getD, List.getD_eq_getElem?_getD, List.getElem?_append_left h]
theorem bt_r {A B : List Int} {i : Nat} : bt (A ++ B) (A.length + i) = bt B i := by
 unfold bt
 rw [List.getD_eq_getElem?_getD, List.getD_eq_getElem?_getD, List.getElem?_append_right (by omega), Nat.add_sub_cancel_left]
theorem Hd.fix18 (h : Hd) : bt h.fix 18 = h.map.toNat := by
 have e : (opusHead ++ [h.ver, h.ch] ++ leL h.skip.toNat 2 ++ leL h.rate 4 ++ leL (h.gain % 65536).toNat 2).length = 18 := by
   unfold opusHead
   simp only [List.length_append, leL_len, List.length_cons, List.length_nil]
 have := bt_r (A := opusHead ++ [h.ver, h.ch] ++ leL h.skip.toNat 2 ++ leL h.rate 4 ++ leL (h.gain % 65536).toNat 2) (B := [h.map]) (i := 0)
 rw [e] at this
 exact this
theorem Hd.fix9 (h : Hd) : bt h.fix 9 = h.ch.toNat := by
 unfold Hd.fix opusHead
 rfl
theorem Hd.fix8 (h : Hd) : h.fix.take 8 = opusHead := by
 unfold Hd.fix opusHead
 rfl
theorem Hd.okX {h : Hd} (h1 : h.text.2 = 1) (hr : h.rate < 4294967296) : okX (bytesOf h.text.1) ∧ (bt (bytesOf h.text.1) 18 = 0 ∨ bt (bytesOf h.text.1) 18 = 1 ∨ bt (bytesOf h.text.1) 18 = 255) := by
 obtain ⟨Y, e, hY, hfb, c1, c2, c3, c4⟩ := Hd.text_list h1 hr
 have hl := h.fix_len
 have e18 : bt (bytesOf h.text.1) 18 = h.map.toNat := by rw [e, bt_app (by omega), h.fix18]
 have e9 : bt (bytesOf h.text.1) 9 = h.ch.toNat := by rw [e, bt_app (by omega), h.fix9]
 refine ⟨⟨by rw [e, List.length_append]; omega, by rw [e, List.take_append_of_le_length (by omega), h.fix8], ?_⟩, ?_⟩
 · unfold okM
   rw [e18, e9, e, List.length_append]
   rcases hY with ⟨a, rfl⟩ | ⟨a, b, _⟩
   · left
     simp only [List.length_nil]
     omega
   · right
     omega
 · rw [e18]
   rcases hY with ⟨a, rfl⟩ | ⟨a, b, _⟩ <;> omega
theorem hdPg_good {s : ByteArray} (h : s.size ≤ 60000) : (hdPg s).good := (ok_one (p := hdPg s) (s := s) rfl rfl h ⟨show (0 : Int) ≤ 2 by decide, show (2 : Int) ≤ 7 by decide⟩).good (show 1 < 4294967296 by decide) (show 0 < 4294967296 by decide) (show 0 < 18446744073709551616 by decide)
theorem tgPg_good {s : ByteArray} (h : s.size ≤ 60000) : (tgPg s).good := (ok_one (p := tgPg s) (s := s) rfl rfl h ⟨show (0 : Int) ≤ 0 by decide, show (0 : Int) ≤ 7 by decide⟩).good (show 1 < 4294967296 by decide) (show 1 < 4294967296 by decide) (show 0 < 18446744073709551616 by decide)
theorem opens_hd {X : ByteArray} (hX : X.size ≤ 60000) (hm : bt (bytesOf X) 18 = 0 ∨ bt (bytesOf X) 18 = 1 ∨ bt (bytesOf X) 18 = 255) {R : List Int} (hR : Byt R) :
   ∃ g, pageI (pgEnc (hdPg X) ++ R) = some (g, R) ∧ g.segs.flatten = bytesOf X ∧ ∃ k, Opens (pgEnc (hdPg X) ++ R) g R k := by
 have hg := hdPg_good hX
 obtain ⟨g, h1, h2, _, h4⟩ := pageI_enc hg hR
 have hsg : (hdPg X).segs = lace false [bytesOf X] := rfl
 have hfl : g.segs.flatten = bytesOf X := by
   rw [h2, segs_flat hg]
   exact List.append_nil _
 have hb : Byt (pgEnc (hdPg X) ++ R) := (pgEnc_byt hg).append hR
 have hl := pgEnc_len hg
 have hXl := bytesOf_len X
 refine ⟨g, h1, hfl, (bytesOf X).length / 255, h1, h4.siz, ?_, ?_, ?_, ?_, ?_, ?_, ?_, ?_⟩
 · rw [h2, hsg]
   exact one_lace (by omega)
 · rw [h4.hdr, bytes_str hb]
   exact hb.take _
 · rw [h4.hdr, bytes_str hb, List.length_take, List.length_append]
   omega
 · have := congrArg (List.take 4) h4.sig
   rw [List.take_take] at this
   exact this
 · have := h4.fla
   have e : (hdPg X).flags = 2 := rfl
   omega
 · rw [hfl]
   exact byt_bytes X
 · rw [hfl]
   omega
 · rw [hfl]
   exact hm
end Go.Proofs.YtokkphocaloelaaGreatDoor

end
section
section
namespace Go.Proofs.YtokkphocaloelaaGreatDoor
open Go Go.Vc
set_option maxRecDepth 100000

structure EncS where
 buf : List Int
 tail : List Int
 win : Nat
 nend : Nat
 rng : Nat
 low : Nat
 rem : Int
 ext : Nat
 total : Nat
def EncS.blk (e : EncS) (i j : Nat) : Blk := .cells 134 [.vec i e.buf.length, .vec j e.tail.length, .val (.int .u64 e.win), .val (.int .u64 e.nend), .val (.int .u32 e.rng), .val (.int .u32 e.low), .val (.int .i64 e.rem), .val (.int .i64 e.ext), .val (.int .u64 e.total)]
def byteBlk (xs : List Int) : Blk := .vec true 5 (encI .u8) [] 1 xs
def EncS.H (e : EncS) : List Blk := [e.blk 1 2, byteBlk e.buf, byteBlk e.tail]
def EncS.init : EncS := ⟨[], [], 0, 0, 2147483648, 0, -1, 0, 33⟩
theorem encInit (w0 : World) : CallsA Tryz.prog w0 59 [.c (.ptr 0 0)] [.cells 134 [.val (.slice none 0 0), .val (.slice none 0 0), .val (.int .u64 0), .val (.int .u64 0), .val (.int .u32 0), .val (.int .u32 0), .val (.int .i64 0), .val (.int .i64 0), .val (.int .u64 0)]] fun r H => r = .t [] ∧ H = EncS.init.H := by
 refine callsA_of_ev c59_ ?_
 conv => whnf
 refine ⟨rfl, rfl, Or.inr ⟨5, Int, encI .u8, by omega, fun _ => rfl, ?_⟩⟩
 conv => whnf
 refine ⟨rfl, rfl, Or.inr ⟨5, Int, encI .u8, by omega, fun _ => rfl, ?_⟩⟩
 conv => whnf
 exact Or.inl ⟨rfl, rfl⟩
end Go.Proofs.YtokkphocaloelaaGreatDoor
end
section
namespace Go.Proofs.YtokkphocaloelaaGreatDoor
open Go Go.Vc
set_option maxRecDepth 100000

theorem encFinal (w0 : World) (e : EncS) : CallsA Tryz.prog w0 67 [.c (.ptr 0 0)] e.H fun r H => r = u32 e.rng ∧ H = e.H := by
 refine callsA_of_ev c67_ ?_
 conv => whnf
 exact Or.inl ⟨rfl, rfl⟩
def EncS.tell (e : EncS) : Nat := e.total - len e.rng
theorem encTell (w0 : World) (e : EncS) (h : e.total ≤ 4611686018427387904) (h1 : 1 ≤ e.rng) (h2 : e.rng < 4294967296) : CallsA Tryz.prog w0 68 [.c (.ptr 0 0)] e.H fun r H => r = u64 e.tell ∧ H = e.H := by
 have hl1 := le_len (n := e.rng) (k := 0) h1
 have hl2 := len_le (n := e.rng) (k := 32) h2
 refine callsA_of_ev c68_ ?_
 conv => whnf
 refine (len32 w0 e.H h2).mono ?_
 rintro _ _ ⟨rfl, rfl⟩
 conv => whnf
 refine Or.inl ?_
 conv => whnf
 simp (disch := omega) only [nwrap64]
 refine ⟨fun h3 => ?_, fun h3 => ?_⟩
 · have := beq_t h3
   omega
 · conv => whnf
   refine Or.inl ?_
   conv => whnf
   refine ⟨fun h4 => ?_, fun h4 => ?_⟩
   · have h4 := le_t h4
     conv => whnf
     refine Or.inl ⟨u64_of ?_, rfl⟩
     unfold EncS.tell
     omega
   · have h4 := le_f h4
     conv => whnf
     refine Or.inl ⟨u64_of ?_, rfl⟩
     unfold EncS.tell
     rw [nsub (by omega), nwrap64 (by omega)]
theorem EncS.embH {e : EncS} {H : List Blk} {e0 env : Env} (hd : H = e.H) (he : embE [0, 1, 2] env e0) : EmbS 3 ⟨e0, e.H⟩ ⟨env, H⟩ := by
 subst hd
 exact ⟨[0, 1, 2], ⟨rfl, ⟨rfl, rfl, rfl, rfl, rfl, rfl, trivial⟩, rfl⟩, he⟩
def EncS.frac (e : EncS) : Nat := Go.Proofs.YtokkphocaloelaaGreatDoor.frac e.total e.rng
theorem encTellFrac (w0 : World) (d : EncS) (hnb : d.total ≤ 1152921504606846976) (h1 : 8388608 ≤ d.rng) (h2 : d.rng < 4294967296) : CallsA Tryz.prog w0 69 [.c (.ptr 0 0)] d.H fun r H => r = u64 d.frac ∧ H = d.H := by
 have hl1 := le_len (n := d.rng) (k := 23) h1
 have hl2 := len_le (n := d.rng) (k := 32) h2
 obtain ⟨ht1, ht2⟩ := top_bits h1
 refine callsA_of_ev c69_ ?_
 conv => whnf
 refine (len32 w0 d.H h2).mono ?_
 rintro _ _ ⟨rfl, rfl⟩
 conv => whnf
 refine Or.inl ?_
 conv => whnf
 simp (disch := omega) only [nwrap64]
 refine ⟨fun h3 => ?_, fun h3 => ?_⟩
 · have h3 : ((len d.rng : Nat) : Int) = ((0 : Nat) : Int) := by simpa using h3
   omega
 · conv => whnf
   refine Or.inl ?_
   conv => whnf
   refine ⟨fun h4 => ?_, fun h4 => ?_⟩
   · have h4 := of_decide_eq_true h4
     have h4 : ((len d.rng : Nat) : Int) < ((24 : Nat) : Int) := h4
     omega
   · conv => whnf
     simp (disch := omega) only [nsub, nwrap64]
     refine ⟨by omega, ?_⟩
     conv => whnf
     simp (disch := omega) only [Int.toNat_natCast, nshr32, nwrap64]
     refine Or.inl ?_
     conv => whnf
     refine ⟨_root_.Fin 4, fun ⟨k, _⟩ => ⟨[(0, .o (.c (.ptr 0 0))), (3, .o (.c (.val (.int .u64 ((fracIter (d.rng / 2 ^ (len d.rng - 16), len d.rng) k).2 : Nat))))), (4, .o (.c (.val (.int .u64 ((fracIter (d.rng / 2 ^ (len d.rng - 16), len d.rng) k).1 : Nat))))), (33, .o (.c (.val (.int .i64 (k : Nat)))))], d.H⟩, fun k => 3 - k.1, ⟨0, EncS.embH rfl ⟨rfl, rfl, rfl, rfl, trivial⟩⟩, fun ⟨k, hk⟩ => ?_⟩
     obtain ⟨a, b, c⟩ := fracIter_lt (p := (d.rng / 2 ^ (len d.rng - 16), len d.rng)) ht1 ht2 hl2 k (by omega)
     have hpk : 2 ^ k ≤ 2 ^ 3 := Nat.pow_le_pow_right (by omega) (by omega)
     obtain ⟨a', b', c', d'⟩ := fracStep_lt a b
     conv => whnf
     refine ⟨fun h5 => ?_, fun h5 => ?_⟩
     · have h5 := of_decide_eq_true h5
       have h5 : (k : Int) < ((3 : Nat) : Int) := h5
       conv => whnf
       refine Or.inl ?_
       conv => whnf
       have hs : fracIter (d.rng / 2 ^ (len d.rng - 16), len d.rng) (k + 1) = fracStep (fracIter (d.rng / 2 ^ (len d.rng - 16), len d.rng) k) := rfl
       generalize hq : fracIter (d.rng / 2 ^ (len d.rng - 16), len d.rng) k = q at *
       obtain ⟨r, l⟩ := q
       simp only at a b c d'
       have hb2 : r * r / 32768 / 65536 ≤ 1 := by omega
       simp (disch := omega) only [nmul, nwrap64, nshr64, nadd]
       refine ⟨fun h6 => ?_, fun h6 => ?_⟩
       · have h6 : r * r / 2 ^ 15 / 2 ^ 16 ≠ 0 := by
           intro h0
           rw [h0] at h6
           cases h6
         conv => whnf
         refine ⟨⟨k + 1, by omega⟩, EncS.embH rfl ⟨rfl, ?_, ?_, ?_, trivial⟩, ?_⟩
         · refine eq_u64 ?_
           rw [hs]
           rfl
         · refine eq_u64 ?_
           rw [hs, nshr64 _ _ (by omega), fracStep_pos h6]
         · refine eq_i64 ?_
           rw [nadd, nwrapi (by omega)]
         · show 3 - (k + 1) < 3 - k
           omega
       · have h6 : r * r / 2 ^ 15 / 2 ^ 16 = 0 := bne_f h6
         conv => whnf
         refine ⟨⟨k + 1, by omega⟩, EncS.embH rfl ⟨rfl, ?_, ?_, ?_, trivial⟩, ?_⟩
         · refine eq_u64 ?_
           rw [hs]
           rfl
         · refine eq_u64 ?_
           rw [hs, fracStep_neg h6]
         · refine eq_i64 ?_
           rw [nadd, nwrapi (by omega)]
         · show 3 - (k + 1) < 3 - k
           omega
     · have h5 := of_decide_eq_false h5
       have h5 : ¬ (k : Int) < ((3 : Nat) : Int) := h5
       have hk3 : k = 3 := by omega
       subst hk3
       conv => whnf
       refine Or.inl ?_
       conv => whnf
       simp (disch := omega) only [nmul, nwrap64]
       refine ⟨fun h6 => ?_, fun h6 => ?_⟩
       · have h6 := of_decide_eq_true h6
         conv => whnf
         refine Or.inl ⟨u64_of ?_, rfl⟩
         have h6 : ((d.total * 8 : Nat) : Int) ≤ ((fracIter (d.rng / 2 ^ (len d.rng - 16), len d.rng) 3).2 : Nat) := h6
         show (0 : Int) = ((d.total * 8 - (fracIter (d.rng / 2 ^ (len d.rng - 16), len d.rng) 3).2 : Nat) : Int)
         omega
       · have h6 := of_decide_eq_false h6
         conv => whnf
         refine Or.inl ⟨u64_of ?_, rfl⟩
         have h6 : ¬ ((d.total * 8 : Nat) : Int) ≤ ((fracIter (d.rng / 2 ^ (len d.rng - 16), len d.rng) 3).2 : Nat) := h6
         show _ = ((d.total * 8 - (fracIter (d.rng / 2 ^ (len d.rng - 16), len d.rng) 3).2 : Nat) : Int)
         rw [nsub (by omega), nwrap64 (by omega)]
end Go.Proofs.YtokkphocaloelaaGreatDoor
end
section
namespace Go.Proofs.YtokkphocaloelaaGreatDoor
open Go Go.Vc
set_option maxRecDepth 100000

theorem bitMaskW (w0 : World) (H : List Blk) {n : Nat} (h : n < 32) : CallsA Tryz.prog w0 104 [.c (.val (.int .u64 n))] H fun r H' => r = u32 (2 ^ n - 1) ∧ H' = H := by
 have hp : 2 ^ n ≤ 2 ^ 31 := Nat.pow_le_pow_right (by omega) (by omega)
 have hp0 : 1 ≤ 2 ^ n := Nat.one_le_two_pow
 refine callsA_of_ev c104_ ?_
 conv => whnf
 refine Or.inl ?_
 conv => whnf
 refine ⟨fun h1 => absurd (ge_t h1) (by omega), fun _ => ?_⟩
 conv => whnf
 refine ⟨by omega, ?_⟩
 conv => whnf
 refine Or.inl ⟨u32_of ?_, rfl⟩
 rw [Int.toNat_natCast, nshl32 _ _ (by omega), Nat.one_mul, nwrap32 (by omega), nsub hp0, nwrap32 (by omega)]
theorem boolToIntW (w0 : World) (H : List Blk) (b : Bool) : CallsA Tryz.prog w0 108 [.c (.val (.bool b))] H fun r H' => r = i64 (bif b then 1 else 0) ∧ H' = H := by
 refine callsA_of_ev c108_ ?_
 conv => whnf
 refine Or.inl ?_
 conv => whnf
 refine ⟨fun h => ?_, fun h => ?_⟩
 · subst h
   conv => whnf
   exact Or.inl ⟨rfl, rfl⟩
 · subst h
   conv => whnf
   exact Or.inl ⟨rfl, rfl⟩
theorem shouldW (w0 : World) (e : EncS) (n : Nat) (h : 0 < e.nend) (hb : e.buf.length ≠ 0) (hn : e.nend ≤ n) : CallsA Tryz.prog w0 109 [.c (.ptr 0 0), .c (.val (.int .u64 n))] e.H fun r H' => r = .o (.c (.val (.bool false))) ∧ H' = e.H := by
 refine callsA_of_ev c109_ ?_
 conv => whnf
 refine ⟨fun _ => ?_, fun h1 => absurd (gt_f h1) (by omega)⟩
 conv => whnf
 refine ⟨fun h1 => absurd (beq_t h1) hb, fun _ => ?_⟩
 conv => whnf
 refine Or.inl ⟨?_, rfl⟩
 have : decide ((e.nend : Int) > (n : Int)) = false := decide_eq_false (by omega)
 rw [this]
 rfl
theorem carryN (w0 : World) (e : EncS) (hr : e.rem = -1) (hx : e.ext = 0) {v : Nat} (hv : v < 255) : CallsA Tryz.prog w0 107 [.c (.ptr 0 0), .c (.val (.int .i64 v))] e.H fun r H => r = .t [] ∧ H = ({ e with rem := v } : EncS).H := by
 refine callsA_of_ev c107_ ?_
 conv => whnf
 refine Or.inl ?_
 conv => whnf
 refine ⟨fun h1 => ?_, fun h1 => absurd (bne_f h1) (by omega)⟩
 conv => whnf
 refine Or.inl ?_
 conv => whnf
 refine ⟨fun h2 => absurd (of_decide_eq_true h2 : (0 : Int) ≤ e.rem) (by omega), fun _ => ?_⟩
 conv => whnf
 refine Or.inl ?_
 conv => whnf
 refine ⟨fun h1 => absurd (gt_t h1) (by omega), fun _ => ?_⟩
 conv => whnf
 refine Or.inl ⟨rfl, ?_⟩
 rw [nandi (by omega) (by omega), show (255 : Nat) = 2 ^ 8 - 1 by rfl, nand_mask, Nat.mod_eq_of_lt (by omega)]
 rfl
theorem carryP (w0 : World) (e : EncS) (hr : 0 ≤ e.rem) (hr2 : e.rem < 256) (hx : e.ext = 0) (hb : e.buf.length ≤ 1048576) {v : Nat} (hv : v < 255) : CallsA Tryz.prog w0 107 [.c (.ptr 0 0), .c (.val (.int .i64 v))] e.H fun r H => r = .t [] ∧ H = [({ e with rem := v, buf := e.buf ++ [e.rem] } : EncS).blk 3 2, .dead, byteBlk e.tail, byteBlk (e.buf ++ [e.rem])] := by
 refine callsA_of_ev c107_ ?_
 conv => whnf
 refine Or.inl ?_
 conv => whnf
 refine ⟨fun h1 => ?_, fun h1 => absurd (bne_f h1) (by omega)⟩
 conv => whnf
 refine Or.inl ?_
 conv => whnf
 refine ⟨fun _ => ?_, fun h2 => absurd hr (of_decide_eq_false h2)⟩
 conv => whnf
 refine ⟨⟨⟨rfl, rfl⟩, trivial⟩, ?_⟩
 conv => whnf
 have hX : IntKind.u8.wrap (IntKind.i64.wrap (e.rem + ((v : Nat) : Int).fdiv (2 ^ min 8 IntKind.i64.bits))) = e.rem := by
   rw [nshri _ _ (by omega), show v / 2 ^ 8 = 0 by omega, IntKind.wrap_i64, IntKind.wrap_u8]
   omega
 refine ⟨rfl, [e.rem], ⟨rfl, rfl, congrArg (fun x => [CV.val (.int .u8 x)]) hX.symm⟩, by rw [List.length_append, List.length_singleton]; omega, by rw [List.length_append, List.length_singleton]; omega, ?_⟩
 conv => whnf
 refine ⟨trivial, ?_⟩
 conv => whnf
 refine ⟨trivial, ?_⟩
 conv => whnf
 refine Or.inl ?_
 conv => whnf
 refine ⟨fun h1 => absurd (gt_t h1) (by omega), fun _ => ?_⟩
 conv => whnf
 have hrem : IntKind.i64.wrap (((BitVec.ofInt IntKind.i64.bits (v : Int) &&& BitVec.ofInt IntKind.i64.bits ((255 : Nat) : Int)).toNat : Nat) : Int) = (v : Int) := by
   rw [nandi (by omega) (by omega), show (255 : Nat) = 2 ^ 8 - 1 by rfl, nand_mask, Nat.mod_eq_of_lt (by omega)]
 refine Or.inr ⟨[0, 1, 2, 4], .t [], [({ e with rem := v, buf := e.buf ++ [e.rem] } : EncS).blk 3 2, .dead, byteBlk e.tail, byteBlk (e.buf ++ [e.rem])], ⟨rfl, ⟨congrArg (fun x : Int => some (Blk.cells 134 [.vec 4 (e.buf ++ [e.rem]).length, .vec 2 e.tail.length, .val (.int .u64 e.win), .val (.int .u64 e.nend), .val (.int .u32 e.rng), .val (.int .u32 e.low), .val (.int .i64 x), .val (.int .i64 e.ext), .val (.int .u64 e.total)])) hrem, rfl, Nat.le_of_ble_eq_true rfl, rfl, rfl, rfl, rfl, trivial⟩, rfl⟩, rfl, rfl, rfl⟩
theorem normStop (w0 : World) (e : EncS) (h : 8388608 < e.rng) : CallsA Tryz.prog w0 102 [.c (.ptr 0 0)] e.H fun r H => r = .t [] ∧ H = e.H := by
 refine callsA_of_ev c102_ ?_
 conv => whnf
 refine ⟨Unit, fun _ => ⟨[(0, .o (.c (.ptr 0 0)))], e.H⟩, fun _ => 0, ⟨(), EncS.embH rfl ⟨rfl, trivial⟩⟩, fun _ => ?_⟩
 conv => whnf
 refine ⟨fun h1 => absurd (le_t h1) (by omega), fun _ => ?_⟩
 conv => whnf
 exact Or.inl ⟨rfl, rfl⟩
end Go.Proofs.YtokkphocaloelaaGreatDoor
end
section
namespace Go.Proofs.YtokkphocaloelaaGreatDoor
open Go Go.Vc
set_option maxRecDepth 100000
set_option maxHeartbeats 4000000

def E1 : EncS := ⟨[], [], 0, 0, 8589934, 1666447344, -1, 0, 33⟩
def E2 : EncS := ⟨[], [], 1, 2, 8589934, 1666447344, -1, 0, 35⟩
theorem cumA (w0 : World) : CallsA Tryz.prog w0 60 [.c (.ptr 0 0), .c (.val (.int .u32 ((194 : Nat) : Int))), .c (.val (.int .u32 ((195 : Nat) : Int))), .c (.val (.int .u32 ((250 : Nat) : Int)))] EncS.init.H fun r H => r = .t [] ∧ H = E1.H := by
 refine callsA_of_ev c60_ ?_
 conv => whnf
 refine Or.inl ?_
 conv => whnf
 refine ⟨fun h => absurd (beq_t h) (by decide), fun _ => ?_⟩
 conv => whnf
 refine ⟨fun h => absurd (ge_t h) (by decide), fun _ => ?_⟩
 conv => whnf
 refine ⟨fun h => absurd (gt_t h) (by decide), fun _ => ?_⟩
 conv => whnf
 refine ⟨by decide, ?_⟩
 conv => whnf
 refine Or.inl ?_
 conv => whnf
 refine ⟨fun _ => ?_, fun h => absurd (bne_f h) (by decide)⟩
 conv => whnf
 refine ⟨by first | exact trivial | exact ⟨⟨rfl, rfl⟩, trivial⟩, ?_⟩
 conv => whnf
 refine (normStop w0 E1 (by decide)).mono ?_
 rintro _ _ ⟨rfl, rfl⟩
 conv => whnf
 exact Or.inl ⟨rfl, rfl⟩
theorem rawA (w0 : World) : CallsA Tryz.prog w0 65 [.c (.ptr 0 0), .c (.val (.int .u64 ((2 : Nat) : Int))), .c (.val (.int .u32 ((1 : Nat) : Int)))] E1.H fun r H => r = .t [] ∧ H = E2.H := by
 refine callsA_of_ev c65_ ?_
 conv => whnf
 refine Or.inl ?_
 conv => whnf
 refine ⟨fun h => absurd (beq_t h) (by decide), fun _ => ?_⟩
 conv => whnf
 refine Or.inl ?_
 conv => whnf
 refine ⟨fun _ => ?_, fun h => absurd (lt_f h) (by decide)⟩
 conv => whnf
 refine (bitMaskW w0 E1.H (n := 2) (by decide)).mono ?_
 rintro _ _ ⟨rfl, rfl⟩
 conv => whnf
 refine ⟨by decide, ?_⟩
 conv => whnf
 refine ⟨by first | exact trivial | exact ⟨⟨rfl, rfl⟩, trivial⟩, ?_⟩
 conv => whnf
 refine ⟨Unit, fun _ => ⟨[(0, .o (.c (.ptr 0 0)))], E2.H⟩, fun _ => 0, ⟨(), EncS.embH rfl ⟨rfl, trivial⟩⟩, fun _ => ?_⟩
 conv => whnf
 refine ⟨fun h => absurd (ge_t h) (by decide), fun _ => ?_⟩
 conv => whnf
 exact Or.inl ⟨rfl, rfl⟩
theorem uniA (w0 : World) : CallsA Tryz.prog w0 64 [.c (.ptr 0 0), .c (.val (.int .u32 ((1000 : Nat) : Int))), .c (.val (.int .u32 ((777 : Nat) : Int)))] EncS.init.H fun r H => r = .t [] ∧ H = E2.H := by
 refine callsA_of_ev c64_ ?_
 conv => whnf
 refine Or.inl ?_
 conv => whnf
 refine ⟨fun h => absurd (le_t h) (by decide), fun _ => ?_⟩
 conv => whnf
 refine Or.inl ?_
 conv => whnf
 refine ⟨fun h => absurd (ge_t h) (by decide), fun _ => ?_⟩
 conv => whnf
 refine (len32 w0 EncS.init.H (n := 999) (by decide)).mono ?_
 rintro _ _ ⟨rfl, rfl⟩
 conv => whnf
 refine Or.inl ?_
 conv => whnf
 refine ⟨fun h => absurd (le_t h) (by decide), fun _ => ?_⟩
 conv => whnf
 refine ⟨by decide, ?_⟩
 conv => whnf
 refine ⟨by decide, ?_⟩
 conv => whnf
 refine (cumA w0).mono ?_
 rintro _ _ ⟨rfl, rfl⟩
 conv => whnf
 refine (bitMaskW w0 E1.H (n := 2) (by decide)).mono ?_
 rintro _ _ ⟨rfl, rfl⟩
 conv => whnf
 refine (rawA w0).mono ?_
 rintro _ _ ⟨rfl, rfl⟩
 conv => whnf
 exact Or.inl ⟨rfl, rfl⟩
def E3 : EncS := ⟨[], [], 1, 2, 8589934, 1666447344, 199, 0, 35⟩
def E4 : EncS := ⟨[199], [], 1, 2, 8589934, 1666447344, 0, 0, 35⟩
def flushSt : Nat → S
 | 0 => ⟨[(0, .o (.c (.ptr 0 0))), (3, .o (.c (.val (.int .i64 ((9 : Nat) : Int))))), (5, .o (.c (.val (.int .u32 ((1669332992 : Nat) : Int)))))], E2.H⟩
 | 1 => ⟨[(0, .o (.c (.ptr 0 0))), (3, .o (.c (.val (.int .i64 ((1 : Nat) : Int))))), (5, .o (.c (.val (.int .u32 ((0 : Nat) : Int)))))], E3.H⟩
 | _ => ⟨[(0, .o (.c (.ptr 0 0))), (3, .o (.c (.val (.int .i64 (-7))))), (5, .o (.c (.val (.int .u32 ((0 : Nat) : Int)))))], [E4.blk 3 2, .dead, byteBlk [], byteBlk [199]]⟩
theorem flushA (w0 : World) : CallsA Tryz.prog w0 106 [.c (.ptr 0 0)] E2.H fun r H => r = i64 (-7) ∧ H = [E4.blk 3 2, .dead, byteBlk [], byteBlk [199]] := by
 refine callsA_of_ev c106_ ?_
 conv => whnf
 refine (len32 w0 E2.H (n := 8589934) (by decide)).mono ?_
 rintro _ _ ⟨rfl, rfl⟩
 conv => whnf
 refine ⟨by decide, ?_⟩
 conv => whnf
 refine Or.inl ?_
 conv => whnf
 refine ⟨fun _ => ?_, fun h => absurd h (by decide)⟩
 conv => whnf
 refine Or.inl ?_
 conv => whnf
 refine ⟨_root_.Fin 3, fun ⟨k, _⟩ => flushSt k, fun k => 3 - k.1, ⟨⟨0, by decide⟩, EncS.embH (e := E2) rfl ⟨rfl, rfl, rfl, trivial⟩⟩, fun ⟨k, hk⟩ => ?_⟩
 rcases k with _ | _ | _ | k
 · conv => whnf
   refine ⟨fun _ => ?_, fun h => absurd h (by decide)⟩
   conv => whnf
   refine (carryN w0 E2 rfl rfl (v := 199) (by decide)).mono ?_
   rintro _ _ ⟨rfl, rfl⟩
   conv => whnf
   exact ⟨⟨1, by decide⟩, EncS.embH (e := E3) rfl ⟨rfl, rfl, rfl, trivial⟩, (by show 3 - 1 < 3 - 0; decide)⟩
 · conv => whnf
   refine ⟨fun _ => ?_, fun h => absurd h (by decide)⟩
   conv => whnf
   refine (carryP w0 E3 (by decide) (by decide) rfl (by decide) (v := 0) (by decide)).mono ?_
   rintro _ _ ⟨rfl, rfl⟩
   conv => whnf
   exact ⟨⟨2, by decide⟩, ⟨[0, 1, 2, 3], ⟨rfl, ⟨rfl, rfl, by decide, rfl, rfl, rfl, rfl, trivial⟩, rfl⟩, rfl, rfl, rfl, trivial⟩, (by show 3 - 2 < 3 - 1; decide)⟩
 · conv => whnf
   refine ⟨fun h => absurd h (by decide), fun _ => ?_⟩
   conv => whnf
   exact Or.inl ⟨rfl, rfl⟩
 · omega
def E5 : EncS := ⟨[199, 0], [], 1, 2, 8589934, 1666447344, 0, 0, 35⟩
theorem doneA (w0 : World) : CallsA Tryz.prog w0 70 [.c (.ptr 0 0)] E2.H fun r H => r = .o (.c (.vec 3 2)) ∧ H = [.dead, .dead, .dead, byteBlk [199, 1]] := by
 refine callsA_of_ev c70_ ?_
 conv => whnf
 refine (flushA w0).mono ?_
 rintro _ _ ⟨rfl, rfl⟩
 conv => whnf
 refine Or.inl ?_
 conv => whnf
 refine ⟨fun _ => ?_, fun h => absurd h (by decide)⟩
 conv => whnf
 refine CallsA.lift (H0 := E4.H) [0, 3, 2] rfl ⟨rfl, rfl, rfl, rfl, rfl, rfl, trivial⟩ rfl (carryP w0 E4 (by decide) (by decide) rfl (by decide) (v := 0) (by decide)) ?_
 rintro _ _ ⟨rfl, rfl⟩
 conv => whnf
 refine Or.inl ?_
 conv => whnf
 refine ⟨fun _ => ?_, fun h => absurd h (by decide)⟩
 conv => whnf
 refine CallsA.lift (H0 := E5.H) [0, 4, 2] rfl ⟨rfl, rfl, rfl, rfl, rfl, rfl, trivial⟩ rfl (shouldW w0 E5 7 (by decide) (by decide) (by decide)) ?_
 rintro _ _ ⟨rfl, rfl⟩
 conv => whnf
 refine ⟨⟨⟨rfl, rfl⟩, ⟨rfl, rfl⟩, trivial⟩, ?_⟩
 conv => whnf
 refine (boolToIntW w0 _ false).mono ?_
 rintro _ _ ⟨rfl, rfl⟩
 conv => whnf
 refine ⟨⟨⟨rfl, rfl⟩, ⟨rfl, rfl⟩, trivial⟩, ?_⟩
 conv => whnf
 refine ⟨by decide, ?_⟩
 conv => whnf
 refine ⟨Int, encI .u8, [], 0, fun _ => rfl, rfl, ?_⟩
 conv => whnf
 refine ⟨by first | exact trivial | exact ⟨⟨rfl, rfl⟩, trivial⟩ | exact ⟨⟨rfl, rfl⟩, ⟨rfl, rfl⟩, trivial⟩, ?_⟩
 conv => whnf
 refine ⟨rfl, [199, 0], ⟨rfl, by decide, rfl, rfl⟩, by decide, ?_⟩
 conv => whnf
 refine Or.inl ?_
 conv => whnf
 refine ⟨Unit, fun _ => ⟨[(0, .o (.c (.ptr 0 0))), (4, .o (.c (.val (.int .u64 ((7 : Nat) : Int))))), (5, .o (.c (.vec 5 2))), (56, .o (.c (.vec 2 0))), (57, .o (.c (.val (.int .i64 ((0 : Nat) : Int))))), (58, .o (.c (.val (.int .i64 ((0 : Nat) : Int)))))], [E5.blk 4 2, .dead, byteBlk [], .dead, byteBlk [199, 0], byteBlk [199, 0]]⟩, fun _ => 0, ⟨(), [0, 1, 2, 3, 4, 5], ⟨rfl, ⟨rfl, rfl, by decide, rfl, rfl, by decide, rfl, rfl, rfl, rfl, trivial⟩, rfl⟩, rfl, rfl, rfl, rfl, rfl, rfl, trivial⟩, fun _ => ?_⟩
 conv => whnf
 refine ⟨fun h => absurd h (by decide), fun _ => ?_⟩
 conv => whnf
 refine Or.inl ?_
 conv => whnf
 refine ⟨fun _ => ?_, fun h => absurd h (by decide)⟩
 conv => whnf
 refine (bitMaskW w0 _ (n := 2) (by decide)).mono ?_
 rintro _ _ ⟨rfl, rfl⟩
 conv => whnf
 refine ⟨⟨⟨rfl, rfl⟩, trivial⟩, ?_⟩
 conv => whnf
 refine CallsA.lift (H0 := E5.H) [0, 4, 2] rfl ⟨rfl, rfl, rfl, rfl, rfl, rfl, trivial⟩ rfl (shouldW w0 E5 7 (by decide) (by decide) (by decide)) ?_
 rintro _ _ ⟨rfl, rfl⟩
 conv => whnf
 refine ⟨(fun h => by cases h), fun _ => ?_⟩
 conv => whnf
 refine ⟨by decide, ?_⟩
 conv => whnf
 refine ⟨0, rfl, ?_⟩
 conv => whnf
 refine ⟨by decide, ?_⟩
 conv => whnf
 refine ⟨0, 1, rfl, rfl, ?_⟩
 conv => whnf
 exact Or.inr ⟨[0, 1, 2, 5], .o (.c (.vec 3 2)), [.dead, .dead, .dead, byteBlk [199, 1]], ⟨rfl, ⟨Nat.le_of_ble_eq_true rfl, Nat.le_of_ble_eq_true rfl, Nat.le_of_ble_eq_true rfl, rfl, rfl, trivial⟩, rfl⟩, rfl, rfl, rfl⟩
end Go.Proofs.YtokkphocaloelaaGreatDoor
end
section
namespace Go.Proofs.YtokkphocaloelaaGreatDoor
open Go Go.Vc
set_option maxRecDepth 100000
set_option maxHeartbeats 4000000

def oA : OpV := ⟨3, 1000, 777, 0, 0, .slice none 0 0, []⟩
def opsA : Blk := .vec true 131 encOp [] 6 [oA]
def seenA : SeenV := ⟨0, true, 8589934, E2.tell, E2.frac, 0⟩
def encASt : Nat → S
 | 0 => ⟨[(2, .o (.c (.ptr 1 0))), (3, .o (.c (.ptr 2 0))), (4, .o (.c (.ptr 3 0))), (5, .o (.c (.ptr 4 0))), (10, .o (.c (.vec 0 1))), (11, .o (.c (.val (.int .i64 ((1 : Nat) : Int))))), (12, .o (.c (.val (.int .i64 ((0 : Nat) : Int)))))], [opsA, .cells 9 [.val (.string ByteArray.empty)], .cells 89 [.val (.slice none 0 0)], .cells 3 [.val (.int .i64 ((0 : Nat) : Int))], EncS.init.blk 5 6, byteBlk [], byteBlk []]⟩
 | _ => ⟨[(2, .o (.c (.ptr 1 0))), (3, .o (.c (.ptr 2 0))), (4, .o (.c (.ptr 3 0))), (5, .o (.c (.ptr 4 0))), (10, .o (.c (.vec 0 1))), (11, .o (.c (.val (.int .i64 ((1 : Nat) : Int))))), (12, .o (.c (.val (.int .i64 ((1 : Nat) : Int)))))], [opsA, .cells 9 [.val (.string ByteArray.empty)], .cells 89 [.vec 7 1], .cells 3 [.val (.int .i64 ((0 : Nat) : Int))], E2.blk 5 6, byteBlk [], byteBlk [], .vec true 95 encSeen [] 6 [seenA]]⟩
theorem encodeA (w0 : World) : CallsA Tryz.prog w0 34 [.c (.vec 0 1)] [opsA] fun r H => ∃ s : SeenV, r = .t [.c (.val (.string (strOf [199, 1]))), .c (.vec 1 1), .c (.val (.int .i64 ((0 : Nat) : Int)))] ∧ H = [opsA, .vec true 95 encSeen [] 6 [s]] := by
 refine callsA_of_evD c34_ ?_
 conv => whnf
 refine CallsA.lift (H0 := [.cells 134 [.val (.slice none 0 0), .val (.slice none 0 0), .val (.int .u64 0), .val (.int .u64 0), .val (.int .u32 0), .val (.int .u32 0), .val (.int .i64 0), .val (.int .i64 0), .val (.int .u64 0)]]) [4] rfl ⟨rfl, rfl, trivial⟩ rfl (encInit w0) ?_
 rintro _ _ ⟨rfl, rfl⟩
 conv => whnf
 refine Or.inl ?_
 conv => whnf
 refine ⟨_root_.Fin 2, fun ⟨k, _⟩ => encASt k, fun k => 2 - k.1, ⟨⟨0, by decide⟩, ⟨[0, 1, 2, 3, 4, 5, 6], ⟨rfl, ⟨rfl, rfl, rfl, rfl, rfl, rfl, rfl, rfl, rfl, rfl, rfl, rfl, rfl, rfl, trivial⟩, rfl⟩, rfl, rfl, rfl, rfl, rfl, rfl, rfl, trivial⟩⟩, fun ⟨k, hk⟩ => ?_⟩
 rcases k with _ | _ | k
 · conv => whnf
   refine ⟨fun _ => ?_, fun h => absurd h (by decide)⟩
   conv => whnf
   refine Or.inl ?_
   conv => whnf
   refine ⟨by decide, ?_⟩
   conv => whnf
   refine ⟨oA, rfl, ?_⟩
   conv => whnf
   refine Or.inl ?_
   conv => whnf
   refine ⟨fun h => absurd h (by decide), fun _ => ?_⟩
   conv => whnf
   refine ⟨fun h => absurd h (by decide), fun _ => ?_⟩
   conv => whnf
   refine ⟨fun h => absurd h (by decide), fun _ => ?_⟩
   conv => whnf
   refine ⟨fun _ => ?_, fun h => absurd h (by decide)⟩
   conv => whnf
   refine CallsA.lift (H0 := EncS.init.H) [4, 5, 6] rfl ⟨rfl, rfl, rfl, rfl, rfl, rfl, trivial⟩ rfl (uniA w0) ?_
   rintro _ _ ⟨rfl, rfl⟩
   conv => whnf
   refine CallsA.lift (H0 := E2.H) [4, 5, 6] rfl ⟨rfl, rfl, rfl, rfl, rfl, rfl, trivial⟩ rfl (encFinal w0 E2) ?_
   rintro _ _ ⟨rfl, rfl⟩
   conv => whnf
   refine ⟨⟨⟨rfl, rfl⟩, trivial⟩, ?_⟩
   conv => whnf
   refine CallsA.lift (H0 := E2.H) [4, 5, 6] rfl ⟨rfl, rfl, rfl, rfl, rfl, rfl, trivial⟩ rfl (encTell w0 E2 (by decide) (by decide) (by decide)) ?_
   rintro _ _ ⟨rfl, rfl⟩
   conv => whnf
   refine ⟨⟨⟨rfl, rfl⟩, trivial⟩, ?_⟩
   conv => whnf
   refine CallsA.lift (H0 := E2.H) [4, 5, 6] rfl ⟨rfl, rfl, rfl, rfl, rfl, rfl, trivial⟩ rfl (encTellFrac w0 E2 (by decide) (by decide) (by decide)) ?_
   rintro _ _ ⟨rfl, rfl⟩
   conv => whnf
   refine ⟨⟨⟨rfl, rfl⟩, trivial⟩, ?_⟩
   conv => whnf
   refine ⟨⟨⟨rfl, rfl⟩, trivial⟩, ?_⟩
   conv => whnf
   refine ⟨by decide, SeenV, encSeen, [], [seenA], fun _ => rfl, ⟨rfl, rfl, rfl⟩, by decide, by decide, ?_⟩
   conv => whnf
   refine ⟨by first | exact trivial | exact ⟨⟨rfl, rfl⟩, trivial⟩, ?_⟩
   conv => whnf
   refine ⟨by first | exact trivial | exact ⟨⟨rfl, rfl⟩, trivial⟩, ?_⟩
   conv => whnf
   exact ⟨⟨1, by decide⟩, ⟨[0, 1, 2, 3, 4, 5, 6, 9], ⟨rfl, ⟨rfl, rfl, rfl, rfl, rfl, rfl, rfl, rfl, rfl, rfl, rfl, rfl, rfl, rfl, rfl, rfl, trivial⟩, rfl⟩, rfl, rfl, rfl, rfl, rfl, rfl, rfl, trivial⟩, (by show 2 - 1 < 2 - 0; decide)⟩
 · conv => whnf
   refine ⟨fun h => absurd h (by decide), fun _ => ?_⟩
   conv => whnf
   refine CallsA.lift (H0 := E2.H) [4, 5, 6] rfl ⟨rfl, rfl, rfl, rfl, rfl, rfl, trivial⟩ rfl (doneA w0) ?_
   rintro _ _ ⟨rfl, rfl⟩
   conv => whnf
   refine ⟨⟨⟨rfl, rfl⟩, trivial⟩, ?_⟩
   conv => whnf
   refine ⟨trivial, [199, 1], ⟨rfl, by decide, rfl, rfl⟩, ?_⟩
   conv => whnf
   refine ⟨⟨⟨rfl, rfl⟩, trivial⟩, ?_⟩
   conv => whnf
   refine ⟨by first | exact trivial | exact ⟨⟨rfl, rfl⟩, trivial⟩, ?_⟩
   conv => whnf
   refine ⟨by first | exact trivial | exact ⟨⟨rfl, rfl⟩, trivial⟩, ?_⟩
   conv => whnf
   refine Or.inr ⟨[0, 7], .t [.c (.val (.string (strOf [199, 1]))), .c (.vec 1 1), .c (.val (.int .i64 ((0 : Nat) : Int)))], [opsA, .vec true 95 encSeen [] 6 [seenA]], ⟨rfl, ⟨rfl, rfl, rfl, rfl, trivial⟩, rfl⟩, rfl, seenA, rfl, rfl⟩
 · omega
end Go.Proofs.YtokkphocaloelaaGreatDoor
end
section
namespace Go.Proofs.YtokkphocaloelaaGreatDoor
open Go Go.Vc
set_option maxRecDepth 100000
set_option maxHeartbeats 4000000

def locA : Blk := .cells 87 [.val (.int .i64 ((3 : Nat) : Int)), .val (.int .u32 ((1000 : Nat) : Int)), .val (.int .u32 ((777 : Nat) : Int)), .val (.int .u32 ((0 : Nat) : Int)), .val (.int .i64 ((0 : Nat) : Int)), .val (.slice none 0 0)]
def opsLSt : Nat → S
 | 0 => ⟨[(3, .o (.c (.val (.slice none 0 0)))), (6, .o (.c (.sli 0 6 0 1 1))), (7, .o (.c (.val (.int .i64 ((1 : Nat) : Int))))), (8, .o (.c (.val (.int .i64 ((0 : Nat) : Int)))))], [locA]⟩
 | _ => ⟨[(3, .o (.c (.vec 1 1))), (6, .o (.c (.sli 0 6 0 1 1))), (7, .o (.c (.val (.int .i64 ((1 : Nat) : Int))))), (8, .o (.c (.val (.int .i64 ((1 : Nat) : Int)))))], [locA, opsA]⟩
theorem opsL (w0 : World) : CallsA Tryz.prog w0 33 [.c (.sli 0 6 0 1 1)] [locA] fun r H => r = .o (.c (.vec 1 1)) ∧ H = [locA, opsA] := by
 refine callsA_of_ev c33_ ?_
 conv => whnf
 refine Or.inl ?_
 conv => whnf
 refine ⟨_root_.Fin 2, fun ⟨k, _⟩ => opsLSt k, fun k => 2 - k.1, ⟨⟨0, by decide⟩, ⟨[0], ⟨rfl, ⟨rfl, rfl, trivial⟩, rfl⟩, rfl, rfl, rfl, rfl, trivial⟩⟩, fun ⟨k, hk⟩ => ?_⟩
 rcases k with _ | _ | k
 · conv => whnf
   refine ⟨fun _ => ?_, fun h => absurd h (by decide)⟩
   conv => whnf
   refine ⟨by decide, ?_⟩
   conv => whnf
   refine ⟨by decide, OpV, encOp, [], [oA], fun _ => rfl, ⟨rfl, rfl, rfl⟩, by decide, by decide, ?_⟩
   conv => whnf
   exact ⟨⟨1, by decide⟩, ⟨[0, 3], ⟨rfl, ⟨rfl, rfl, rfl, rfl, trivial⟩, rfl⟩, rfl, rfl, rfl, rfl, trivial⟩, (by show 2 - 1 < 2 - 0; decide)⟩
 · conv => whnf
   refine ⟨fun h => absurd h (by decide), fun _ => ?_⟩
   conv => whnf
   exact Or.inl ⟨rfl, rfl⟩
 · omega
theorem goodA (w0 : World) : oA.good w0 := ⟨by decide, by decide, by decide, Or.inr (Or.inr (Or.inr (Or.inl ⟨rfl, by decide⟩)))⟩
theorem readA : ∃ s : SeenV, (Dec.init (bytesOf (strOf [199, 1]))).seen [oA] = [s] ∧ s.value = ((777 : Nat) : Int) ∧ s.fine = true := ⟨_, rfl, by kernel_rfl, by kernel_rfl⟩
theorem aliveW (w0 : World) : CallsA Tryz.prog w0 15 [] [] fun r H => r = .o (.c (.val (.bool true))) ∧ H = [] := by
 refine callsA_of_ev c15_ ?_
 conv => whnf
 refine CallsA.lift (H0 := [locA]) [0] rfl ⟨rfl, rfl, trivial⟩ rfl (opsL w0) ?_
 rintro _ _ ⟨rfl, rfl⟩
 conv => whnf
 refine CallsA.lift (H0 := [opsA]) [1] rfl ⟨rfl, rfl, trivial⟩ rfl (encodeA w0) ?_
 rintro _ _ ⟨sA, rfl, rfl⟩
 conv => whnf
 refine CallsA.lift (H0 := [opsA]) [1] rfl ⟨rfl, rfl, trivial⟩ rfl (decodeW w0 (b := strOf [199, 1]) (l := [oA]) (by decide) (by decide) (by decide) ?_) ?_
 · intro o ho
   rw [List.mem_singleton] at ho
   subst ho
   exact ⟨goodA w0, rfl⟩
 rintro _ _ ⟨rfl, rfl⟩
 obtain ⟨s, hs, h1, h2⟩ := readA
 rw [hs]
 obtain ⟨sv, sf, sr, st, sc, sl⟩ := s
 simp only at h1 h2
 subst h1 h2
 clear hs
 conv => whnf
 refine ⟨fun _ => ?_, fun h => absurd h (by decide)⟩
 conv => whnf
 refine ⟨fun _ => ?_, fun h => absurd h (by decide)⟩
 conv => whnf
 refine ⟨fun _ => ?_, fun h => absurd h (by decide)⟩
 conv => whnf
 refine ⟨by decide, ?_⟩
 conv => whnf
 refine ⟨_, rfl, ?_⟩
 conv => whnf
 refine ⟨fun _ => ?_, fun h => absurd rfl (ieq_f h)⟩
 conv => whnf
 refine ⟨by decide, ?_⟩
 conv => whnf
 refine ⟨_, rfl, ?_⟩
 conv => whnf
 exact Or.inr ⟨[], .o (.c (.val (.bool true))), [], ⟨rfl, trivial, rfl⟩, rfl, rfl, rfl⟩
end Go.Proofs.YtokkphocaloelaaGreatDoor
end

end
section
namespace Go.Proofs.YtokkphocaloelaaGreatDoor
open Go Go.Vc
set_option maxRecDepth 100000
set_option maxHeartbeats 8000000

theorem mem_get {α : Type} {x : α} {l : List α} (h : x ∈ l) : ∃ i : Nat, l[i]? = some x := List.getElem?_of_mem h
theorem StrOk.good {w0 : World} {v : Value} {h : Hd} {xs : List (Pg × Value)} (hv : pgsAt w0 v xs) (h1 : StrOk h xs) : ∀ p ∈ xs.map Prod.fst, p.good := by
 intro p hp
 obtain ⟨x, hx, rfl⟩ := List.mem_map.1 hp
 rcases hv with ⟨_, rfl⟩ | ⟨a, c, _, _, hb⟩
 · cases hx
 · obtain ⟨i, hi⟩ := mem_get hx
   have hf := (hb i x hi).fit
   exact (h1.ok x hx).good hf.1 hf.2.1 hf.2.2.1
theorem Hd.pages_good {h : Hd} (h1 : h.text.2 = 1) : ∀ p ∈ h.pages, p.good := by
 intro p hp
 simp only [Hd.pages, List.mem_cons, List.not_mem_nil, or_false] at hp
 rcases hp with rfl | rfl
 · exact hdPg_good (by have := Hd.text_size h1; omega)
 · refine tgPg_good ?_
   have : tagsS.size = 25 := by unfold tagsS; rw [strOf_siz]; rfl
   omega
structure Seen (b : ByteArray) (qs : List Pg) (T : List Int) : Prop where
 siz : b.size ≤ 1073741824
 bhd : bhd b = qs.map lcdOf
 whole : (oggR b).2 = T.isEmpty
 opens : ∃ g L0, pageI (bytesOf b) = some (g, L0) ∧ okX g.segs.flatten ∧ (∀ g rest, pageI (bytesOf b) = some (g, rest) → ∃ k, Opens (bytesOf b) g rest k) ∧ allI L0 = (qs.map lcdOf, T)
 gran : ∀ p ∈ qs, p.gran < 18446744073709551616
 len : qs.length ≤ 1048576
 seg : ∀ p ∈ qs, p.segs.length ≤ 255
theorem seen_of {h : Hd} (h1 : h.text.2 = 1) (hr : h.rate < 4294967296) {qs : List Pg} (hq : ∀ p ∈ qs, p.good) {T : List Int} (hT : pageI T = none) (hTb : Byt T) (hs : (encAll qs).length + T.length ≤ 20000) :
   Seen (strOf (encAll h.pages) ++ strOf (encAll qs ++ T)) (tgPg tagsS :: qs) T := by
 obtain ⟨b, hb⟩ : ∃ b, b = strOf (encAll h.pages) ++ strOf (encAll qs ++ T) := ⟨_, rfl⟩
 rw [← hb]
 have hpg := Hd.pages_good h1
 have htg : (tgPg tagsS).good := hpg _ (List.mem_cons_of_mem _ (List.mem_cons_self ..))
 have hrg : ∀ p ∈ tgPg tagsS :: qs, p.good := fun p hp => by
   rcases List.mem_cons.1 hp with rfl | hp
   · exact htg
   · exact hq p hp
 have hXs := Hd.text_size h1
 have hok := Hd.okX h1 hr
 have e1 : encAll h.pages ++ (encAll qs ++ T) = encAll (h.pages ++ qs) ++ T := by rw [encAll_add, List.append_assoc]
 have e2 : encAll (h.pages ++ qs) ++ T = pgEnc (hdPg h.text.1) ++ (encAll (tgPg tagsS :: qs) ++ T) := List.append_assoc ..
 have hag : ∀ p ∈ h.pages ++ qs, p.good := fun p hp => (List.mem_append.1 hp).elim (hpg p) (hq p)
 have hbb : bytesOf b = encAll (h.pages ++ qs) ++ T := by
   rw [hb, bytes_add, bytes_str (encAll_byt _ hpg), bytes_str ((encAll_byt _ hq).append hTb), e1]
 have hR : Byt (encAll (tgPg tagsS :: qs) ++ T) := (encAll_byt _ hrg).append hTb
 obtain ⟨g, o1, o2, o3⟩ := opens_hd (X := h.text.1) (by omega) hok.2 hR
 have hog := oggR_enc (h.pages ++ qs) hag hbb hT
 have hln : ∀ l : List Pg, (∀ p ∈ l, p.good) → 27 * l.length ≤ (encAll l).length := by
   intro l
   induction l with
   | nil => intro _; exact Nat.le_refl _
   | cons p r ih =>
     intro hl
     have h1 := pgEnc_len (hl p (List.mem_cons_self ..))
     have h2 := ih fun q hq => hl q (List.mem_cons_of_mem _ hq)
     show 27 * (r.length + 1) ≤ (pgEnc p ++ encAll r).length
     rw [List.length_append]
     omega
 refine ⟨?_, ?_, ?_, ⟨g, encAll (tgPg tagsS :: qs) ++ T, ?_, ?_, ?_, ?_⟩, ?_, ?_, ?_⟩
 · have hl := bytesOf_len b
   have hts : (tgPg tagsS).wt ≤ 60 := by decide
   have hhs : (hdPg h.text.1).wt ≤ 400 := by
     show 27 + 1 + (h.text.1.size + 0) ≤ 400
     omega
   have hz := encAll_size h.pages hpg
   have hw : wts h.pages = (hdPg h.text.1).wt + ((tgPg tagsS).wt + 0) := rfl
   rw [hbb, ← e1, List.length_append, List.length_append] at hl
   omega
 · show ((oggR b).1.drop 1).map lcdOf = _
   rw [hog]
   rfl
 · rw [hog]
 · rw [hbb, e2, o1]
 · rw [o2]
   exact hok.1
 · intro g' rest hg'
   rw [hbb, e2] at hg' ⊢
   rw [o1] at hg'
   cases hg'
   exact o3
 · exact allI_enc _ hrg hTb hT
 · exact fun p hp => (hrg p hp).gran
 · have := hln qs hq
   rw [List.length_cons]
   omega
 · exact fun p hp => (hrg p hp).cnt
end Go.Proofs.YtokkphocaloelaaGreatDoor

end
section
namespace Go.Proofs.YtokkphocaloelaaGreatDoor
open Go Go.Vc
set_option maxRecDepth 100000
set_option maxHeartbeats 8000000

theorem lPagesW {w0 : World} {t : TypeId} {v : Nat → Value} (he : Errs w0 t v) (hp : pows w0) (h : Hd) (hr : h.rate < 4294967296) (hi : ∀ x ∈ [h.ver, h.ch, h.map, h.skip, h.gain, h.str, h.cou], -9223372036854775808 ≤ x ∧ x < 9223372036854775808)
   {ma : Option Addr} {mn mc : Nat} {vv : Value} {xs : List (Pg × Value)} (hv : pgsAt w0 vv xs) (hw : wtx xs ≤ 1073741824) :
   CallsA Tryz.prog w0 5 [.a (h.cells (.slice ma mn mc)), .c (.val vv)] [] fun r H => r = .o (.c (.val (.bool true))) ∧ H = [] := by
 refine callsA_of_ev c5_ ?_
 conv => whnf
 refine Or.inl ?_
 conv => whnf
 refine cL0 (zz7W w0 h) ?_
 rintro _ _ ⟨⟨b1, rfl, hm⟩, rfl⟩
 cases b1 with
 | false =>
   conv => whnf
   refine ⟨fun _ => ?_, fun g => absurd g (by decide)⟩
   conv => whnf
   exact Or.inr ⟨[], .o (.c (.val (.bool true))), [], ⟨rfl, trivial, rfl⟩, rfl, rfl, rfl⟩
 | true =>
   have hm := hm rfl
   conv => whnf
   refine ⟨fun g => absurd g (by decide), fun _ => ?_⟩
   conv => whnf
   refine cL0 (zz8W w0 hv) ?_
   rintro _ _ ⟨⟨b2, rfl⟩, rfl⟩
   cases b2 with
   | false =>
     conv => whnf
     refine ⟨fun _ => ?_, fun g => zT g⟩
     conv => whnf
     exact Or.inr ⟨[], .o (.c (.val (.bool true))), [], ⟨rfl, trivial, rfl⟩, rfl, rfl, rfl⟩
   | true =>
     conv => whnf
     refine ⟨fun g => zF g, fun _ => ?_⟩
     conv => whnf
     refine cL0 (lStreamW w0 h hr hi hm hv hw) ?_
     rintro _ _ (⟨hok, rfl, rfl⟩ | ⟨⟨sa, sb, rfl⟩, rfl⟩)
     · obtain ⟨ps, hps⟩ : ∃ ps, ps = xs.map Prod.fst := ⟨_, rfl⟩
       have hS := seen_of hok.hd hr (qs := ps) (by rw [hps]; exact hok.good hv) pageI_nil (fun x hx => (List.not_mem_nil hx).elim) (by have := hok.siz; rw [hps, List.length_nil]; omega)
       rw [← hps]
       rw [List.append_nil] at hS
       have hbh := behindW w0 hS.siz
       rw [hS.bhd, hS.whole] at hbh
       obtain ⟨g0, L0, o1, o2, o3, o4⟩ := hS.opens
       have hip := iOggPagesW he (by have := hS.siz; omega) o3 o1 o2
       rw [o4] at hip
       have hgr := hS.gran
       have hln := hS.len
       have hsg := hS.seg
       have hsz := hS.siz
       clear hS o1 o2 o3 o4
       obtain ⟨y0, yr, hyy⟩ : ∃ y0 yr, (tgPg tagsS :: ps).map lcdOf = y0 :: yr := ⟨_, _, rfl⟩
       rw [hyy] at hbh hip
       have hyl : (yr.length + 1) = (tgPg tagsS :: ps).length := by rw [← List.length_map (f := lcdOf), hyy]; rfl
       have hz1 : ((y0 :: yr).map Prod.fst).length = yr.length + 1 := List.length_map ..
       have hg1 : ((y0 :: yr).map Prod.snd).length = yr.length + 1 := List.length_map ..
       have hsl := sameListsC w0 (zss := (y0 :: yr).map Prod.fst) (by rw [hz1, hyl]; omega) (by
         rw [← hyy]
         intro z hz
         obtain ⟨y, hy, rfl⟩ := List.mem_map.1 hz
         obtain ⟨p, hp, rfl⟩ := List.mem_map.1 hy
         have := hsg p hp
         show (strsL p.segs).length ≤ _
         unfold strsL
         rw [List.length_map]
         omega)
       have hnu := numsUW w0 hp (l := (y0 :: yr).map Prod.snd) (by rw [hg1, hyl]; omega) (by
         rw [← hyy]
         intro z hz
         obtain ⟨y, hy, rfl⟩ := List.mem_map.1 hz
         obtain ⟨p, hp, rfl⟩ := List.mem_map.1 hy
         exact hgr p hp)
       rw [hz1] at hsl
       rw [hg1] at hnu
       have hbz : (strOf (encAll h.pages)).size + (strOf (encAll ps)).size ≤ 9223372036854775807 := by rw [ByteArray.size_append] at hsz; omega
       conv => whnf
       refine Or.inl ?_
       conv => whnf
       refine ⟨fun g => zF g, fun _ => ?_⟩
       conv => whnf
       refine ⟨hbz, ?_⟩
       conv => whnf
       refine cL0 hbh ?_
       rintro _ _ ⟨rfl, rfl⟩
       conv => whnf
       refine ⟨hbz, ?_⟩
       conv => whnf
       refine CallsA.liftE (H0 := []) [] rfl trivial rfl hip ?_
       rintro _ _ ⟨k, hk1, hk0, rfl, rfl⟩
       obtain rfl : k = 0 := hk0 rfl
       refine ⟨.t [.c (.vec 4 (yr.length + 1)), .c (.vec 5 (yr.length + 1)), .c (.val (.int .i64 ((0 : Nat) : Int)))], [.cells 25 (h.cells (.slice ma mn mc)), outL 3 ((y0 :: yr).map Prod.fst), grB ((y0 :: yr).map Prod.snd), fmB ((y0 :: yr).map Prod.fst), outL 6 ((y0 :: yr).map Prod.fst), grB ((y0 :: yr).map Prod.snd), fmB ((y0 :: yr).map Prod.fst)], rfl, ⟨rfl, rfl, rfl, rfl, rfl, rfl, rfl, trivial⟩, ?_⟩
       conv => whnf
       refine ⟨fun _ => ?_, fun g => zT g⟩
       conv => whnf
       refine ⟨fun _ => ?_, fun g => zT g⟩
       conv => whnf
       refine CallsA.liftE (H0 := [outL 1 ((y0 :: yr).map Prod.fst), fmB ((y0 :: yr).map Prod.fst), outL 3 ((y0 :: yr).map Prod.fst), fmB ((y0 :: yr).map Prod.fst)]) [4, 6, 1, 3] rfl ⟨rfl, rfl, rfl, rfl, rfl, rfl, rfl, rfl, trivial⟩ rfl hsl ?_
       rintro _ _ ⟨rfl, rfl⟩
       refine ⟨.o (.c (.val (.bool true))), [.cells 25 (h.cells (.slice ma mn mc)), outL 3 ((y0 :: yr).map Prod.fst), grB ((y0 :: yr).map Prod.snd), fmB ((y0 :: yr).map Prod.fst), outL 6 ((y0 :: yr).map Prod.fst), grB ((y0 :: yr).map Prod.snd), fmB ((y0 :: yr).map Prod.fst)], rfl, ⟨rfl, rfl, rfl, rfl, rfl, rfl, rfl, trivial⟩, ?_⟩
       conv => whnf
       refine ⟨fun _ => ?_, fun g => zT g⟩
       conv => whnf
       refine CallsA.liftE (H0 := [grB ((y0 :: yr).map Prod.snd)]) [5] rfl ⟨rfl, rfl, trivial⟩ rfl hnu ?_
       rintro _ _ ⟨rfl, rfl⟩
       refine ⟨.o (.c (.val (.string (strOf (numsUL ((y0 :: yr).map Prod.snd)))))), [.cells 25 (h.cells (.slice ma mn mc)), outL 3 ((y0 :: yr).map Prod.fst), grB ((y0 :: yr).map Prod.snd), fmB ((y0 :: yr).map Prod.fst), outL 6 ((y0 :: yr).map Prod.fst), grB ((y0 :: yr).map Prod.snd), fmB ((y0 :: yr).map Prod.fst)], rfl, ⟨rfl, rfl, rfl, rfl, rfl, rfl, rfl, trivial⟩, ?_⟩
       conv => whnf
       refine CallsA.liftE (H0 := [grB ((y0 :: yr).map Prod.snd)]) [2] rfl ⟨rfl, rfl, trivial⟩ rfl hnu ?_
       rintro _ _ ⟨rfl, rfl⟩
       refine ⟨.o (.c (.val (.string (strOf (numsUL ((y0 :: yr).map Prod.snd)))))), [.cells 25 (h.cells (.slice ma mn mc)), outL 3 ((y0 :: yr).map Prod.fst), grB ((y0 :: yr).map Prod.snd), fmB ((y0 :: yr).map Prod.fst), outL 6 ((y0 :: yr).map Prod.fst), grB ((y0 :: yr).map Prod.snd), fmB ((y0 :: yr).map Prod.fst)], rfl, ⟨rfl, rfl, rfl, rfl, rfl, rfl, rfl, trivial⟩, ?_⟩
       conv => whnf
       refine ⟨fun _ => ?_, fun g => absurd (show ((strOf (numsUL ((y0 :: yr).map Prod.snd))).toList == (strOf (numsUL ((y0 :: yr).map Prod.snd))).toList) = false from g) (by rw [beq_self_eq_true]; decide)⟩
       conv => whnf
       refine cL0 (aliveW w0) ?_
       rintro _ _ ⟨rfl, rfl⟩
       conv => whnf
       exact Or.inr ⟨[], .o (.c (.val (.bool true))), [], ⟨rfl, trivial, rfl⟩, rfl, rfl, rfl⟩
     · conv => whnf
       refine Or.inl ?_
       conv => whnf
       refine ⟨fun _ => ?_, fun g => zT g⟩
       conv => whnf
       exact Or.inr ⟨[], .o (.c (.val (.bool true))), [], ⟨rfl, trivial, rfl⟩, rfl, rfl, rfl⟩
end Go.Proofs.YtokkphocaloelaaGreatDoor

end
section
namespace Go.Proofs.YtokkphocaloelaaGreatDoor
open Go Go.Vc
set_option maxRecDepth 100000
set_option maxHeartbeats 8000000

theorem lCutW {w0 : World} {t : TypeId} {v : Nat → Value} (he : Errs w0 t v) (hp : pows w0) (h : Hd) (hr : h.rate < 4294967296) (hi : ∀ x ∈ [h.ver, h.ch, h.map, h.skip, h.gain, h.str, h.cou], -9223372036854775808 ≤ x ∧ x < 9223372036854775808)
   {ma : Option Addr} {mn mc : Nat} {vv : Value} {xs : List (Pg × Value)} (hv : pgsAt w0 vv xs) (hw : wtx xs ≤ 1073741824) {n : Nat} (hn : n < 65536) :
   CallsA Tryz.prog w0 4 [.a (h.cells (.slice ma mn mc)), .c (.val vv), .c (.val (.int .u16 (n : Nat)))] [] fun r H => r = .o (.c (.val (.bool true))) ∧ H = [] := by
 refine callsA_of_ev c4_ ?_
 conv => whnf
 refine Or.inl ?_
 conv => whnf
 refine cL0 (zz7W w0 h) ?_
 rintro _ _ ⟨⟨b1, rfl, hm⟩, rfl⟩
 cases b1 with
 | false =>
   conv => whnf
   refine ⟨fun _ => ?_, fun g => absurd g (by decide)⟩
   conv => whnf
   exact Or.inr ⟨[], .o (.c (.val (.bool true))), [], ⟨rfl, trivial, rfl⟩, rfl, rfl, rfl⟩
 | true =>
   have hm := hm rfl
   conv => whnf
   refine ⟨fun g => absurd g (by decide), fun _ => ?_⟩
   conv => whnf
   refine cL0 (zz8W w0 hv) ?_
   rintro _ _ ⟨⟨b2, rfl⟩, rfl⟩
   cases b2 with
   | false =>
     conv => whnf
     refine ⟨fun _ => ?_, fun g => zT g⟩
     conv => whnf
     exact Or.inr ⟨[], .o (.c (.val (.bool true))), [], ⟨rfl, trivial, rfl⟩, rfl, rfl, rfl⟩
   | true =>
     conv => whnf
     refine ⟨fun g => zF g, fun _ => ?_⟩
     conv => whnf
     refine cL0 (lStreamW w0 h hr hi hm hv hw) ?_
     rintro _ _ (⟨hok, rfl, rfl⟩ | ⟨⟨sa, sb, rfl⟩, rfl⟩)
     · obtain ⟨ps, hps⟩ : ∃ ps, ps = xs.map Prod.fst := ⟨_, rfl⟩
       have hsiz := hok.siz
       have hgd := hok.good hv
       rw [← hps] at hsiz hgd ⊢
       conv => whnf
       refine Or.inl ?_
       conv => whnf
       refine ⟨fun g => absurd g (by decide), fun _ => ?_⟩
       conv => whnf
       refine ⟨fun g0 => ?_, fun g0 => ?_⟩
       · conv => whnf
         exact Or.inr ⟨[], .o (.c (.val (.bool true))), [], ⟨rfl, trivial, rfl⟩, rfl, rfl, rfl⟩
       have hsz0 : 0 < (encAll ps).length := by
         rcases Nat.eq_zero_or_pos (encAll ps).length with h0 | h0
         · exfalso
           refine strb_f g0 (ba_ext ?_)
           rw [strOf_lst, List.eq_nil_of_length_eq_zero h0]
           rfl
         · exact h0
       obtain ⟨K, hK⟩ : ∃ K, K = n % (encAll ps).length := ⟨_, rfl⟩
       have hKl : K < (encAll ps).length := by rw [hK]; exact Nat.mod_lt _ hsz0
       have eK : (IntKind.i64.wrap ((n : Nat) : Int)).tmod (((strOf (encAll ps)).size : Nat) : Int) = ((K : Nat) : Int) := by rw [nwrapi (by omega), strOf_siz, ntmod, hK]
       obtain ⟨qs, T, hqm, hqT, hTn, hTb⟩ := cut_enc ps hgd hKl
       have hqg : ∀ q ∈ qs, q.good := fun q hq => hgd q (hqm q hq)
       have hql : (encAll qs).length + T.length ≤ 20000 := by
         have := congrArg List.length hqT
         rw [List.length_take, List.length_append] at this
         omega
       have hx : (strOf (encAll ps)).extract (0 : Int).toNat ((K : Nat) : Int).toNat = strOf (encAll qs ++ T) := by
         show (strOf (encAll ps)).extract 0 K = _
         rw [ext_str (encAll_byt _ hgd), List.drop_zero, hqT]
       have hS := seen_of hok.hd hr hqg hTn hTb hql
       have hbh := behindW w0 hS.siz
       rw [hS.bhd, hS.whole] at hbh
       obtain ⟨g0, L0, o1, o2, o3, o4⟩ := hS.opens
       have hip := iOggPagesW he (by have := hS.siz; omega) o3 o1 o2
       rw [o4] at hip
       have hgr := hS.gran
       have hln := hS.len
       have hsg := hS.seg
       have hsz := hS.siz
       clear hS o1 o2 o3 o4
       obtain ⟨y0, yr, hyy⟩ : ∃ y0 yr, (tgPg tagsS :: qs).map lcdOf = y0 :: yr := ⟨_, _, rfl⟩
       rw [hyy] at hbh hip
       have hyl : (yr.length + 1) = (tgPg tagsS :: qs).length := by rw [← List.length_map (f := lcdOf), hyy]; rfl
       have hz1 : ((y0 :: yr).map Prod.fst).length = yr.length + 1 := List.length_map ..
       have hg1 : ((y0 :: yr).map Prod.snd).length = yr.length + 1 := List.length_map ..
       have hsl := sameListsC w0 (zss := (y0 :: yr).map Prod.fst) (by rw [hz1, hyl]; omega) (by
         rw [← hyy]
         intro z hz
         obtain ⟨y, hy, rfl⟩ := List.mem_map.1 hz
         obtain ⟨p, hp, rfl⟩ := List.mem_map.1 hy
         have := hsg p hp
         show (strsL p.segs).length ≤ _
         unfold strsL
         rw [List.length_map]
         omega)
       have hnu := numsUW w0 hp (l := (y0 :: yr).map Prod.snd) (by rw [hg1, hyl]; omega) (by
         rw [← hyy]
         intro z hz
         obtain ⟨y, hy, rfl⟩ := List.mem_map.1 hz
         obtain ⟨p, hp, rfl⟩ := List.mem_map.1 hy
         exact hgr p hp)
       rw [hz1] at hsl
       rw [hg1] at hnu
       have hbz : (strOf (encAll h.pages)).size + (strOf (encAll qs ++ T)).size ≤ 9223372036854775807 := by rw [ByteArray.size_append] at hsz; omega
       conv => whnf
       refine ⟨by rw [strOf_siz]; omega, ?_⟩
       conv => whnf
       rw [eK]
       refine ⟨⟨Int.le_refl 0, Int.natCast_nonneg K, by rw [strOf_siz]; omega⟩, ?_⟩
       conv => whnf
       rw [hx]
       refine ⟨hbz, ?_⟩
       conv => whnf
       refine cL0 hbh ?_
       rintro _ _ ⟨rfl, rfl⟩
       conv => whnf
       refine CallsA.liftE (H0 := []) [] rfl trivial rfl hip ?_
       rintro _ _ ⟨k, hk1, hk0, rfl, rfl⟩
       refine ⟨.t [.c (.vec 4 (yr.length + 1)), .c (.vec 5 (yr.length + 1)), .c (.val (.int .i64 ((k : Nat) : Int)))], [.cells 25 (h.cells (.slice ma mn mc)), outL 3 ((y0 :: yr).map Prod.fst), grB ((y0 :: yr).map Prod.snd), fmB ((y0 :: yr).map Prod.fst), outL 6 ((y0 :: yr).map Prod.fst), grB ((y0 :: yr).map Prod.snd), fmB ((y0 :: yr).map Prod.fst)], rfl, ⟨rfl, rfl, rfl, rfl, rfl, rfl, rfl, trivial⟩, ?_⟩
       conv => whnf
       refine ⟨fun _ => ?_, fun g => absurd (le_f (a := k) (b := 1) g) (by omega)⟩
       conv => whnf
       refine CallsA.liftE (H0 := [outL 1 ((y0 :: yr).map Prod.fst), fmB ((y0 :: yr).map Prod.fst), outL 3 ((y0 :: yr).map Prod.fst), fmB ((y0 :: yr).map Prod.fst)]) [4, 6, 1, 3] rfl ⟨rfl, rfl, rfl, rfl, rfl, rfl, rfl, rfl, trivial⟩ rfl hsl ?_
       rintro _ _ ⟨rfl, rfl⟩
       refine ⟨.o (.c (.val (.bool true))), [.cells 25 (h.cells (.slice ma mn mc)), outL 3 ((y0 :: yr).map Prod.fst), grB ((y0 :: yr).map Prod.snd), fmB ((y0 :: yr).map Prod.fst), outL 6 ((y0 :: yr).map Prod.fst), grB ((y0 :: yr).map Prod.snd), fmB ((y0 :: yr).map Prod.fst)], rfl, ⟨rfl, rfl, rfl, rfl, rfl, rfl, rfl, trivial⟩, ?_⟩
       conv => whnf
       refine ⟨fun _ => ?_, fun g => zT g⟩
       conv => whnf
       refine CallsA.liftE (H0 := [grB ((y0 :: yr).map Prod.snd)]) [5] rfl ⟨rfl, rfl, trivial⟩ rfl hnu ?_
       rintro _ _ ⟨rfl, rfl⟩
       refine ⟨.o (.c (.val (.string (strOf (numsUL ((y0 :: yr).map Prod.snd)))))), [.cells 25 (h.cells (.slice ma mn mc)), outL 3 ((y0 :: yr).map Prod.fst), grB ((y0 :: yr).map Prod.snd), fmB ((y0 :: yr).map Prod.fst), outL 6 ((y0 :: yr).map Prod.fst), grB ((y0 :: yr).map Prod.snd), fmB ((y0 :: yr).map Prod.fst)], rfl, ⟨rfl, rfl, rfl, rfl, rfl, rfl, rfl, trivial⟩, ?_⟩
       conv => whnf
       refine CallsA.liftE (H0 := [grB ((y0 :: yr).map Prod.snd)]) [2] rfl ⟨rfl, rfl, trivial⟩ rfl hnu ?_
       rintro _ _ ⟨rfl, rfl⟩
       refine ⟨.o (.c (.val (.string (strOf (numsUL ((y0 :: yr).map Prod.snd)))))), [.cells 25 (h.cells (.slice ma mn mc)), outL 3 ((y0 :: yr).map Prod.fst), grB ((y0 :: yr).map Prod.snd), fmB ((y0 :: yr).map Prod.fst), outL 6 ((y0 :: yr).map Prod.fst), grB ((y0 :: yr).map Prod.snd), fmB ((y0 :: yr).map Prod.fst)], rfl, ⟨rfl, rfl, rfl, rfl, rfl, rfl, rfl, trivial⟩, ?_⟩
       conv => whnf
       refine ⟨fun _ => ?_, fun g => absurd (show ((strOf (numsUL ((y0 :: yr).map Prod.snd))).toList == (strOf (numsUL ((y0 :: yr).map Prod.snd))).toList) = false from g) (by rw [beq_self_eq_true]; decide)⟩
       conv => whnf
       refine cL0 (aliveW w0) ?_
       rintro _ _ ⟨rfl, rfl⟩
       conv => whnf
       exact Or.inr ⟨[], .o (.c (.val (.bool true))), [], ⟨rfl, trivial, rfl⟩, rfl, rfl, rfl⟩
     · conv => whnf
       refine Or.inl ?_
       conv => whnf
       refine ⟨fun _ => ?_, fun g => zT g⟩
       conv => whnf
       exact Or.inr ⟨[], .o (.c (.val (.bool true))), [], ⟨rfl, trivial, rfl⟩, rfl, rfl, rfl⟩
end Go.Proofs.YtokkphocaloelaaGreatDoor

end
