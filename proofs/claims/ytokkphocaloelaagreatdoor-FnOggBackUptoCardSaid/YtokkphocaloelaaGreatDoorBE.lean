/- Joined: OgT,OgU,OgV,OgW,OgX,OgY,OgZ,PgA,PgB,PgC,PgD,PgE,PgG,PgH,PgI,PgJ,PgK,QgZ,PgL,PgO,IrU,PuM. -/
import Derived.Test.YtokkphocaloelaaGreatDoorBD
section
namespace Go.Proofs.YtokkphocaloelaaGreatDoor
open Go Go.Vc
set_option maxRecDepth 100000
set_option maxHeartbeats 8000000

def segsI:List Int → List Int → Option (List (List Int) × List Int)
 | [],r => some ([],r)
 | s :: ss,r => if r.length < s.toNat then none else (segsI ss (r.drop s.toNat)).map fun x => (r.take s.toNat :: x.1,x.2)
structure PgI where
 hdr:List Int
 sizes:List Int
 segs:List (List Int)
def pageI (r:List Int):Option (PgI × List Int) :=
 if r.length < 27 then none else if r.length < 27 + bt r 26 then none else
   match segsI ((r.drop 27).take (bt r 26)) (r.drop (27 + bt r 26)) with
   | none => none
   | some (segs,q) => if le (((r.take 27).drop 22).take 4) = crcS (hz (r.take 27) ++ (r.drop 27).take (bt r 26) ++ segs.flatten) then some (⟨r.take 27,(r.drop 27).take (bt r 26),segs⟩,q) else none
theorem segsI_facts:∀ (ss r:List Int) {l:List (List Int)} {q:List Int},segsI ss r = some (l,q) → l.length = ss.length ∧ (Byt r → Byt q ∧ ∀ x ∈ l,Byt x) ∧ (Byt ss → ∀ x ∈ l,x.length ≤ 255) ∧ q.length + l.flatten.length = r.length
 | [],r,l,q,h => by
   simp only [segsI,Option.some.injEq,Prod.mk.injEq] at h
   obtain ⟨rfl,rfl⟩ := h
   exact ⟨rfl,fun hr => ⟨hr,fun x hx => (List.not_mem_nil hx).elim⟩,fun _ x hx => (List.not_mem_nil hx).elim,rfl⟩
 | s :: ss,r,l,q,h => by
   simp only [segsI] at h
   split at h
   · cases h
   · rename_i hn
     obtain ⟨⟨l',q'⟩,h1,h2⟩ := Option.map_eq_some_iff.1 h
     cases h2
     obtain ⟨a,b,c,d⟩ := segsI_facts ss _ h1
     refine ⟨by simp [a],fun hr => ?_,fun hs x hx => ?_,?_⟩
     · obtain ⟨e,f⟩ := b (hr.drop _)
       exact ⟨e,fun x hx => by
         rcases List.mem_cons.1 hx with rfl | hx
         · exact hr.take _
         · exact f x hx⟩
     · rcases List.mem_cons.1 hx with rfl | hx
       · have := hs s (List.mem_cons_self ..)
         rw [List.length_take]
         omega
       · exact c (fun y hy => hs y (List.mem_cons_of_mem _ hy)) x hx
     · rw [List.length_drop] at d
       rw [List.flatten_cons,List.length_append,List.length_take]
       simp only at d ⊢
       omega
def u8 (l:List Int) (i:Nat):CV := .val (.int .u8 ((bt l i:Nat):Int))
def hpB (h:List Int):Blk := .cells 80 [.val (.int .u64 ((le ((h.drop 6).take 8):Nat):Int)),u8 h 0,u8 h 1,u8 h 2,u8 h 3,u8 h 4,u8 h 5,.val (.int .u32 ((le ((h.drop 14).take 4):Nat):Int)),.val (.int .u32 ((le ((h.drop 18).take 4):Nat):Int)),u8 h 26]
theorem l0 (n:Nat):0 < n + 1 := Nat.zero_lt_succ _
theorem l1 (n:Nat):1 < n + 2 := by omega
theorem l2 (n:Nat):2 < n + 3 := by omega
theorem l3 (n:Nat):3 < n + 4 := by omega
theorem l4 (n:Nat):4 < n + 5 := by omega
theorem l5 (n:Nat):5 < n + 6 := by omega
def pdE (n:Nat):Env := [(0,.o (.c (.ptr 0 0))),(6,.o (.c (.vec 6 27))),(9,.o (.c (.ptr 7 0))),(10,.o (.c (.vec 8 n)))]
def pdH (m:Bool) (L:List Int) (s:Sr) (h sizes:List Int):List Blk := [rdB 1 3 4 5 m,srcB 2 L s,datB L,tabB tabL,.dead,.dead,rowB h,hpB h,rowB sizes]
def out0:Blk := .vec true 74 encF [] 1 ([]:List (Nat × Nat))
def segS (i:Nat) (segs:List (List Int)):List Blk := match segs with
 | [] => [out0]
 | _ :: _ => [outB (i + 1) segs,segB segs]
def pdN (n i k:Nat):Env := (11,.o (.c (.vec 9 k))) :: (105,.o (.c (.vec 8 n))) :: (106,.o (.c (.val (.int .i64 (n:Nat))))) :: (107,.o (.c (.val (.int .i64 (i:Nat))))) :: pdE n
theorem segsI_get {ss r:List Int} {i:Nat} {x:Int} (h:ss[i]? = some x):segsI (ss.drop i) r = if r.length < x.toNat then none else (segsI (ss.drop (i + 1)) (r.drop x.toNat)).map fun y => (r.take x.toNat :: y.1,y.2) := by
 rw [show ss.drop i = x :: ss.drop (i + 1) from List.drop_eq_getElem?_toList_append.trans (by rw [h]; rfl),segsI]
theorem bt_at {l:List Int} (h:Byt l) {i:Nat} (hi:i < l.length):l[i]? = some ((bt l i:Nat):Int) := (bt_get h hi).1
theorem pageDataW {w0:World} {t:TypeId} {v:Nat → Value} (he:Errs w0 t v) (m:Bool) {L:List Int} {s:Sr} (hs:s.ok L) (_hLb:Byt L) (hL:L.length ≤ 1099511627776) (hrb:Byt (s.rem L)) :
   CallsA Tryz.prog w0 54 [.c (.ptr 0 0)] [rdB 1 3 4 5 m,srcB 2 L s,datB L,tabB tabL,.dead,.dead] fun r H => match pageI (s.rem L) with
     | none => ∃ k:Nat,(k = 0 ∨ k = 1 ∨ k = 5) ∧ (s.rem L = [] → k = 0) ∧ r = .t [.c (.val (.slice none 0 0)),.c (.val (.slice none 0 0)),.c (.val (.pointer none)),.c (.val (.iface t (v k)))] ∧ H = [rdB 1 3 4 5 m,.dead,.dead,tabB tabL,.dead,.dead]
     | some (p,q) => ∃ s':Sr,s'.ok L ∧ s'.rem L = q ∧ r = .t [.c (.vec 8 p.segs.length),.c (.vec 7 p.sizes.length),.c (.ptr 6 0),.c (.val .nilIface)] ∧ H = [rdB 1 3 4 5 m,srcB 2 L s',datB L,tabB tabL,.dead,.dead,hpB p.hdr,rowB p.sizes,outB 9 p.segs,segB p.segs] := by
 obtain ⟨G,hG⟩:∃ G,G = pageI (s.rem L) := ⟨_,rfl⟩
 rw [← hG]
 unfold pageI at hG
 obtain ⟨R,hR⟩:∃ R,R = s.rem L := ⟨_,rfl⟩
 rw [← hR] at hG hrb ⊢
 refine callsA_of_ev c54_ ?_
 conv => whnf
 refine ⟨⟨by decide,by decide,by decide,by decide,by decide⟩,Int,encI .u8,[],0,fun _ => rfl,rfl,?_⟩
 conv => whnf
 refine CallsA.lift (H0 := [srcB 1 L s,datB L,rowB (List.replicate 27 0)]) [1,2,6] rfl ⟨srcE (by rfl) _,rfl,rfl,rfl,rfl,rfl,trivial⟩ rfl (readFullW he hs (m := 27) (List.length_replicate ..) hL (by omega)) ?_
 rw [← hR]
 rintro _ _ (⟨h1,s1,hs1,hr1,rfl,rfl⟩ | ⟨h1,n,k,hk,hk0,rfl,rfl⟩)
 case inr =>
   rw [if_pos h1] at hG
   subst hG
   conv => whnf
   refine Or.inl ?_
   conv => whnf
   refine ⟨fun _ => ?_,fun g => zT g⟩
   conv => whnf
   exact Or.inr ⟨[0,1,2,3,4,5],.t [.c (.val (.slice none 0 0)),.c (.val (.slice none 0 0)),.c (.val (.pointer none)),.c (.val (.iface t (v k)))],[rdB 1 3 4 5 m,.dead,.dead,tabB tabL,.dead,.dead],⟨rfl,⟨rdE (by rfl) (by rfl) (by rfl) (by rfl) m,rfl,l1 _,l2 _,rfl,rfl,l4 _,l5 _,trivial⟩,rfl⟩,rfl,k,(by omega),hk0,rfl,rfl⟩
 rw [if_neg (Nat.not_lt.2 h1)] at hG
 conv => whnf
 refine Or.inl ?_
 conv => whnf
 refine ⟨fun g => zF g,fun _ => ?_⟩
 conv => whnf
 refine ⟨fun g => absurd (lt_t g) (Nat.lt_irrefl _),fun _ => ?_⟩
 conv => whnf
 obtain ⟨h,hh⟩:∃ h,h = R.take 27 := ⟨_,rfl⟩
 obtain ⟨n,hn⟩:∃ n,n = bt h 26 := ⟨_,rfl⟩
 have hnR:bt R 26 = n := by
   rw [hn,hh]
   unfold bt
   rw [List.getD_eq_getElem?_getD,List.getD_eq_getElem?_getD,List.getElem?_take,if_pos (by decide)]
 rw [hnR,← hh] at hG
 rw [← hh]
 have hhl:h.length = 27 := by rw [hh,List.length_take]; omega
 have hhb:Byt h := by rw [hh]; exact hrb.take 27
 have hn8:n < 256 := by rw [hn]; exact bt_lt hhb 26
 have hRne:∀ k:Nat,R = [] → k = 0 := fun k hR0 => by rw [hR0] at h1; exact absurd h1 (by decide)
 refine ⟨⟨by decide,by decide⟩,?_⟩
 conv => whnf
 refine ⟨((bt h 0:Nat):Int),?_⟩
 conv => whnf
 refine ⟨bt_at hhb (i := 0) (by omega),?_⟩
 conv => whnf
 refine ⟨⟨by decide,by decide⟩,?_⟩
 conv => whnf
 refine ⟨((bt h 1:Nat):Int),?_⟩
 conv => whnf
 refine ⟨bt_at hhb (i := 1) (by omega),?_⟩
 conv => whnf
 refine ⟨⟨by decide,by decide⟩,?_⟩
 conv => whnf
 refine ⟨((bt h 2:Nat):Int),?_⟩
 conv => whnf
 refine ⟨bt_at hhb (i := 2) (by omega),?_⟩
 conv => whnf
 refine ⟨⟨by decide,by decide⟩,?_⟩
 conv => whnf
 refine ⟨((bt h 3:Nat):Int),?_⟩
 conv => whnf
 refine ⟨bt_at hhb (i := 3) (by omega),?_⟩
 conv => whnf
 refine ⟨trivial,?_⟩
 conv => whnf
 refine ⟨⟨by decide,by decide⟩,?_⟩
 conv => whnf
 refine ⟨((bt h 4:Nat):Int),?_⟩
 conv => whnf
 refine ⟨bt_at hhb (i := 4) (by omega),?_⟩
 conv => whnf
 refine ⟨⟨by decide,by decide⟩,?_⟩
 conv => whnf
 refine ⟨((bt h 5:Nat):Int),?_⟩
 conv => whnf
 refine ⟨bt_at hhb (i := 5) (by omega),?_⟩
 conv => whnf
 refine ⟨⟨by decide,by decide,by decide⟩,.inl ⟨fun c1 _ _ => ?_,fun h => absurd h (by decide),fun h => absurd h (by decide)⟩⟩
 conv => whnf
 refine CallsA.lift (H0 := [rowB h]) [6] rfl ⟨rfl,rfl,trivial⟩ rfl (le64W w0 hhb (o := 6) (c := c1 - 6) (by omega)) ?_
 rintro _ _ ⟨rfl,rfl⟩
 conv => whnf
 refine ⟨trivial,?_⟩
 conv => whnf
 refine ⟨trivial,?_⟩
 conv => whnf
 refine ⟨⟨by decide,by decide,by decide⟩,.inl ⟨fun c2 _ _ => ?_,fun h => absurd h (by decide),fun h => absurd h (by decide)⟩⟩
 conv => whnf
 refine CallsA.lift (H0 := [rowB h]) [6] rfl ⟨rfl,rfl,trivial⟩ rfl (le32W w0 hhb (o := 14) (c := c2 - 14) (by omega)) ?_
 rintro _ _ ⟨rfl,rfl⟩
 conv => whnf
 refine ⟨trivial,?_⟩
 conv => whnf
 refine ⟨trivial,?_⟩
 conv => whnf
 refine ⟨⟨by decide,by decide,by decide⟩,.inl ⟨fun c3 _ _ => ?_,fun h => absurd h (by decide),fun h => absurd h (by decide)⟩⟩
 conv => whnf
 refine CallsA.lift (H0 := [rowB h]) [6] rfl ⟨rfl,rfl,trivial⟩ rfl (le32W w0 hhb (o := 18) (c := c3 - 18) (by omega)) ?_
 rintro _ _ ⟨rfl,rfl⟩
 conv => whnf
 refine ⟨trivial,?_⟩
 conv => whnf
 refine ⟨trivial,?_⟩
 conv => whnf
 refine ⟨⟨by decide,by decide⟩,?_⟩
 conv => whnf
 refine ⟨((bt h 26:Nat):Int),?_⟩
 conv => whnf
 refine ⟨bt_at hhb (i := 26) (by omega),?_⟩
 conv => whnf
 refine ⟨⟨by omega,by omega,by omega,by omega,by decide⟩,Int,encI .u8,[],0,fun _ => rfl,rfl,?_⟩
 conv => whnf
 have hnn:((bt h 26:Nat):Int).toNat = n := by rw [hn]; rfl
 refine Or.inr ⟨{s2:Sr // s2.ok L ∧ s2.rem L = (R.drop 27).drop n ∧ n ≤ (R.drop 27).length},fun ⟨s2,_⟩ => ⟨pdE n,pdH m L s2 h ((R.drop 27).take n)⟩,?_,fun ⟨s2,hs2,hr2,hn2⟩ => ?_⟩
 · conv => whnf
   rw [hnn]
   refine CallsA.lift (H0 := [srcB 1 L s1,datB L,rowB (List.replicate n 0)]) [1,2,8] rfl ⟨srcEE (by rfl) (by rfl) _,rfl,rfl,rfl,rfl,rfl,trivial⟩ rfl (readFullW he hs1 (m := n) (List.length_replicate ..) hL (by omega)) ?_
   rw [hr1]
   rintro _ _ (⟨h2,s2,hs2,hr2,rfl,rfl⟩ | ⟨h2,n',k,hk,hk0,rfl,rfl⟩)
   · conv => whnf
     refine ⟨fun g => zF g,fun _ => ?_⟩
     conv => whnf
     exact ⟨⟨s2,hs2,hr2,h2⟩,[0,1,2,3,4,5,6,7,8],⟨rfl,⟨rdE (by rfl) (by rfl) (by rfl) (by rfl) m,rfl,srcEE (by rfl) (by rfl) _,rfl,rfl,rfl,rfl,rfl,l4 _,l5 _,rfl,rfl,rfl,rfl,rfl,rfl,trivial⟩,rfl⟩,rfl,rfl,rfl,rfl,trivial⟩
   · rw [List.length_drop] at h2
     rw [if_pos (by omega)] at hG
     subst hG
     conv => whnf
     refine ⟨fun _ => ?_,fun g => zT g⟩
     conv => whnf
     exact Or.inr ⟨[0,1,2,3,4,5],.t [.c (.val (.slice none 0 0)),.c (.val (.slice none 0 0)),.c (.val (.pointer none)),.c (.val (.iface t (v k)))],[rdB 1 3 4 5 m,.dead,.dead,tabB tabL,.dead,.dead],⟨rfl,⟨rdE (by rfl) (by rfl) (by rfl) (by rfl) m,rfl,l1 _,l2 _,rfl,rfl,l4 _,l5 _,trivial⟩,rfl⟩,rfl,k,(by omega),hRne k,rfl,rfl⟩
 rw [List.length_drop] at hn2
 rw [if_neg (by omega),← List.drop_drop] at hG
 obtain ⟨sizes,hsz⟩:∃ sizes,sizes = (R.drop 27).take n := ⟨_,rfl⟩
 obtain ⟨Q,hQ⟩:∃ Q,Q = (R.drop 27).drop n := ⟨_,rfl⟩
 rw [← hsz,← hQ] at hG
 have hr2Q:s2.rem L = Q := by rw [hr2,hQ]
 rw [← hsz]
 have hszl:sizes.length = n := by rw [hsz,List.length_take,List.length_drop]; omega
 have hszb:Byt sizes := by rw [hsz]; exact (hrb.drop 27).take n
 subst hszl
 conv => whnf
 refine ⟨by decide,Nat × Nat,encF,[],encF_len [],?_⟩
 conv => whnf
 obtain ⟨F,hF⟩:∃ F,F = segsI sizes Q := ⟨_,rfl⟩
 rw [← hF] at hG
 refine Or.inr ⟨{x:Sr × List (List Int) // F = some (x.2,x.1.rem L) ∧ x.1.ok L ∧ x.2.length = sizes.length},fun ⟨⟨s3,segs⟩,_⟩ => ⟨(11,.o (.c (.vec 9 segs.length))) :: pdE sizes.length,pdH m L s3 h sizes ++ segS 9 segs⟩,?_,fun ⟨⟨s3,segs⟩,hF3,hs3,hsl⟩ => ?_⟩
 · conv => whnf
   refine ⟨{x:Nat × Sr × List (List Int) // x.1 ≤ sizes.length ∧ x.2.1.ok L ∧ x.2.2.length = x.1 ∧ F = (segsI (sizes.drop x.1) (x.2.1.rem L)).map fun y => (x.2.2 ++ y.1,y.2)},fun ⟨⟨i,s3,segs⟩,_⟩ => ⟨pdN sizes.length i segs.length,pdH m L s3 h sizes ++ segS 9 segs⟩,fun x => sizes.length - x.1.1,⟨⟨(0,s2,[]),Nat.zero_le _,hs2,rfl,?_⟩,[0,1,2,3,4,5,6,7,8,9],⟨rfl,⟨rdE (by rfl) (by rfl) (by rfl) (by rfl) m,rfl,srcE (by rfl) _,rfl,rfl,rfl,rfl,rfl,l4 _,l5 _,rfl,rfl,rfl,rfl,rfl,rfl,rfl,rfl,trivial⟩,rfl⟩,rfl,rfl,rfl,rfl,rfl,rfl,rfl,rfl,trivial⟩,fun ⟨⟨i,s3,segs⟩,hi,hs3,hsl,hF3⟩ => ?_⟩
   · show F = (segsI sizes (s2.rem L)).map fun y => ([] ++ y.1,y.2)
     rw [hr2Q,← hF]
     cases F <;> rfl
   simp only at hi hs3 hsl hF3
   cases segs with
   | nil =>
     conv => whnf
     refine ⟨fun g => ?_,fun g => ?_⟩
     · have g:i < sizes.length := lt_t g
       obtain ⟨x,hx,hx8⟩ := byt_at hszb (i := i) g
       rw [segsI_get hx,Int.toNat_natCast] at hF3
       conv => whnf
       refine Or.inr ⟨{y:Sr × List (List Int) // y.1.ok L ∧ y.2.length = i + 1 ∧ F = (segsI (sizes.drop (i + 1)) (y.1.rem L)).map fun z => (y.2 ++ z.1,z.2)},fun ⟨⟨s4,sg⟩,_⟩ => ⟨pdN sizes.length i sg.length,pdH m L s4 h sizes ++ segS 9 sg⟩,?_,fun ⟨⟨s4,sg⟩,hs4,hsl4,hF4⟩ => ?_⟩
       · conv => whnf
         refine ⟨⟨Int.natCast_nonneg i,Int.ofNat_lt.2 g⟩,?_⟩
         conv => whnf
         refine ⟨((x:Nat):Int),?_⟩
         conv => whnf
         refine ⟨hx,?_⟩
         conv => whnf
         rw [nwrapi (n := x) (by omega)]
         refine ⟨⟨by omega,by omega,by omega,by omega,by decide⟩,Int,encI .u8,[],0,fun _ => rfl,rfl,?_⟩
         conv => whnf
         refine Or.inr ⟨{s4:Sr // s4.ok L ∧ s4.rem L = (s3.rem L).drop x ∧ x ≤ (s3.rem L).length},fun ⟨s4,_⟩ => ⟨(14,.o (.c (.vec 10 x))) :: pdN sizes.length i 0,pdH m L s4 h sizes ++ [out0,rowB ((s3.rem L).take x)]⟩,?_,fun ⟨s4,hs4,hr4,hx4⟩ => ?_⟩
         · conv => whnf
           refine CallsA.lift (H0 := [srcB 1 L s3,datB L,rowB (List.replicate x 0)]) [1,2,10] rfl ⟨srcE (by rfl) _,rfl,rfl,rfl,rfl,rfl,trivial⟩ rfl (readFullW he hs3 (m := x) (List.length_replicate ..) hL (by omega)) ?_
           rintro _ _ (⟨h2,s4,hs4,hr4,rfl,rfl⟩ | ⟨h2,n',k,hk,hk0,rfl,rfl⟩)
           · conv => whnf
             refine ⟨fun g => zF g,fun _ => ?_⟩
             conv => whnf
             exact ⟨⟨s4,hs4,hr4,h2⟩,[0,1,2,3,4,5,6,7,8,9,10],⟨rfl,⟨rdE (by rfl) (by rfl) (by rfl) (by rfl) m,rfl,srcEE (by rfl) (by rfl) _,rfl,rfl,rfl,rfl,rfl,l4 _,l5 _,rfl,rfl,rfl,rfl,rfl,rfl,rfl,rfl,rfl,rfl,trivial⟩,rfl⟩,rfl,rfl,rfl,rfl,rfl,rfl,rfl,rfl,rfl,trivial⟩
           · rw [if_pos h2] at hF3
             have hF3:F = none := hF3
             rw [hF3] at hG
             subst hG
             conv => whnf
             refine ⟨fun _ => ?_,fun g => zT g⟩
             conv => whnf
             exact Or.inr ⟨[0,1,2,3,4,5],.t [.c (.val (.slice none 0 0)),.c (.val (.slice none 0 0)),.c (.val (.pointer none)),.c (.val (.iface t (v k)))],[rdB 1 3 4 5 m,.dead,.dead,tabB tabL,.dead,.dead],⟨rfl,⟨rdE (by rfl) (by rfl) (by rfl) (by rfl) m,rfl,l1 _,l2 _,rfl,rfl,l4 _,l5 _,trivial⟩,rfl⟩,rfl,k,(by omega),hRne k,rfl,rfl⟩
         · rw [if_neg (Nat.not_lt.2 hx4),← hr4] at hF3
           have hXl:((s3.rem L).take x).length = x := by rw [List.length_take]; omega
           have hF4:F = (segsI (sizes.drop (i + 1)) (s4.rem L)).map fun z => (([]:List (List Int)) ++ [(s3.rem L).take x] ++ z.1,z.2) := by
             rw [hF3,Option.map_map]
             rfl
           conv => whnf
           refine ⟨[rdB 1 3 4 5 m,srcB 2 L s4,datB L,tabB tabL,.dead,.dead,rowB h,hpB h,rowB sizes,.vec true 74 encF [13] 1 [],.dead,.cells 74 [.mem 13 0 x],.dead] ++ [.fam 5 (encI .u8) 1 ([] ++ [(s3.rem L).take x])],
             Ghost.trans (H1 := [rdB 1 3 4 5 m,srcB 2 L s4,datB L,tabB tabL,.dead,.dead,rowB h,hpB h,rowB sizes,out0,rowB ((s3.rem L).take x),.cells 74 [.vec 10 x],.fam 5 (encI .u8) 1 []]) (Ghost.fam0 w0 [rdB 1 3 4 5 m,srcB 2 L s4,datB L,tabB tabL,.dead,.dead,rowB h,hpB h,rowB sizes,out0,rowB ((s3.rem L).take x),.cells 74 [.vec 10 x]] 5 (encI .u8) 1 (by decide) (fun _ => rfl)) (Ghost.joinL 12 10 (H := [rdB 1 3 4 5 m,srcB 2 L s4,datB L,tabB tabL,.dead,.dead,rowB h,hpB h,rowB sizes,out0,rowB ((s3.rem L).take x),.cells 74 [.vec 10 x],.fam 5 (encI .u8) 1 []]) (H1 := [rdB 1 3 4 5 m,srcB 2 L s4,datB L,tabB tabL,.dead,.dead,rowB h,hpB h,rowB sizes,.vec true 74 encF [13] 1 [],.dead,.cells 74 [.mem 13 0 x],.dead]) (xss := []) (zs := (s3.rem L).take x) (wr := true) rfl rfl ⟨.keep (by decide) (by decide),.keep (by decide) (by decide),.keep (by decide) (by decide),.keep (by decide) (by decide),.keep (by decide) (by decide),.keep (by decide) (by decide),.keep (by decide) (by decide),.keep (by decide) (by decide),.keep (by decide) (by decide),.vec (by decide) (by decide) rfl (fun y => encF_len _ y) rfl,.dead,.cells (by decide) (by decide) rfl,.dead,trivial⟩),?_⟩
           conv => whnf
           refine ⟨rfl,[(0,x)],⟨rfl,rfl,rfl⟩,by simp only [List.length_append,List.length_cons,List.length_nil]; omega,by simp only [List.length_append,List.length_cons,List.length_nil]; omega,?_⟩
           conv => whnf
           refine ⟨⟨(s4,[(s3.rem L).take x]),hs4,by rw [← hsl]; rfl,hF4⟩,⟨[0,1,2,3,4,5,6,7,8,14,13],⟨rfl,⟨rdE (by rfl) (by rfl) (by rfl) (by rfl) m,rfl,srcE (by rfl) _,rfl,rfl,rfl,rfl,rfl,l4 _,l5 _,rfl,rfl,rfl,rfl,rfl,rfl,?_,rfl,rfl,rfl,trivial⟩,rfl⟩,rfl,rfl,rfl,rfl,rfl,rfl,rfl,rfl,trivial⟩⟩
           show some (Blk.vec true 74 encF [13] 1 [(0,x)]) = some (Blk.vec true 74 encF [13] 1 (turns [((s3.rem L).take x).length]))
           rw [hXl]
           rfl
       · cases sg with
         | nil => exact absurd hsl4 (by simp)
         | cons y0 yr =>
           conv => whnf
           exact ⟨⟨(i + 1,s4,y0 :: yr),g,hs4,hsl4,hF4⟩,⟨[0,1,2,3,4,5,6,7,8,9,10],⟨rfl,⟨rdE (by rfl) (by rfl) (by rfl) (by rfl) m,rfl,srcE (by rfl) _,rfl,rfl,rfl,rfl,rfl,l4 _,l5 _,rfl,rfl,rfl,rfl,rfl,rfl,rfl,rfl,rfl,rfl,trivial⟩,rfl⟩,rfl,rfl,rfl,eq_i64 (by rw [nadd,nwrapi (by omega)]),rfl,rfl,rfl,rfl,trivial⟩,by show sizes.length - (i + 1) < sizes.length - i; omega⟩
     · have g:sizes.length ≤ i := lt_f g
       rw [List.drop_of_length_le g] at hF3
       conv => whnf
       exact ⟨⟨(s3,[]),by rw [hF3]; rfl,hs3,by rw [← hsl] at g; exact Nat.le_antisymm (Nat.zero_le _) g⟩,[0,1,2,3,4,5,6,7,8,9],⟨rfl,⟨rdE (by rfl) (by rfl) (by rfl) (by rfl) m,rfl,srcE (by rfl) _,rfl,rfl,rfl,rfl,rfl,l4 _,l5 _,rfl,rfl,rfl,rfl,rfl,rfl,rfl,rfl,trivial⟩,rfl⟩,rfl,rfl,rfl,rfl,rfl,trivial⟩
   | cons g0 gr =>
     conv => whnf
     refine ⟨fun g => ?_,fun g => ?_⟩
     · have g:i < sizes.length := lt_t g
       obtain ⟨x,hx,hx8⟩ := byt_at hszb (i := i) g
       rw [segsI_get hx,Int.toNat_natCast] at hF3
       conv => whnf
       refine Or.inr ⟨{y:Sr × List (List Int) // y.1.ok L ∧ y.2.length = i + 1 ∧ F = (segsI (sizes.drop (i + 1)) (y.1.rem L)).map fun z => (y.2 ++ z.1,z.2)},fun ⟨⟨s4,sg⟩,_⟩ => ⟨pdN sizes.length i sg.length,pdH m L s4 h sizes ++ segS 9 sg⟩,?_,fun ⟨⟨s4,sg⟩,hs4,hsl4,hF4⟩ => ?_⟩
       · conv => whnf
         refine ⟨⟨Int.natCast_nonneg i,Int.ofNat_lt.2 g⟩,?_⟩
         conv => whnf
         refine ⟨((x:Nat):Int),?_⟩
         conv => whnf
         refine ⟨hx,?_⟩
         conv => whnf
         rw [nwrapi (n := x) (by omega)]
         refine ⟨⟨by omega,by omega,by omega,by omega,by decide⟩,Int,encI .u8,[],0,fun _ => rfl,rfl,?_⟩
         conv => whnf
         refine Or.inr ⟨{s4:Sr // s4.ok L ∧ s4.rem L = (s3.rem L).drop x ∧ x ≤ (s3.rem L).length},fun ⟨s4,_⟩ => ⟨(14,.o (.c (.vec 11 x))) :: pdN sizes.length i (g0 :: gr).length,pdH m L s4 h sizes ++ [outB 10 (g0 :: gr),segB (g0 :: gr),rowB ((s3.rem L).take x)]⟩,?_,fun ⟨s4,hs4,hr4,hx4⟩ => ?_⟩
         · conv => whnf
           refine CallsA.lift (H0 := [srcB 1 L s3,datB L,rowB (List.replicate x 0)]) [1,2,11] rfl ⟨srcE (by rfl) _,rfl,rfl,rfl,rfl,rfl,trivial⟩ rfl (readFullW he hs3 (m := x) (List.length_replicate ..) hL (by omega)) ?_
           rintro _ _ (⟨h2,s4,hs4,hr4,rfl,rfl⟩ | ⟨h2,n',k,hk,hk0,rfl,rfl⟩)
           · conv => whnf
             refine ⟨fun g => zF g,fun _ => ?_⟩
             conv => whnf
             exact ⟨⟨s4,hs4,hr4,h2⟩,[0,1,2,3,4,5,6,7,8,9,10,11],⟨rfl,⟨rdE (by rfl) (by rfl) (by rfl) (by rfl) m,rfl,srcEE (by rfl) (by rfl) _,rfl,rfl,rfl,rfl,rfl,l4 _,l5 _,rfl,rfl,rfl,rfl,rfl,rfl,rfl,rfl,rfl,rfl,rfl,rfl,trivial⟩,rfl⟩,rfl,rfl,rfl,rfl,rfl,rfl,rfl,rfl,rfl,trivial⟩
           · rw [if_pos h2] at hF3
             have hF3:F = none := hF3
             rw [hF3] at hG
             subst hG
             conv => whnf
             refine ⟨fun _ => ?_,fun g => zT g⟩
             conv => whnf
             exact Or.inr ⟨[0,1,2,3,4,5],.t [.c (.val (.slice none 0 0)),.c (.val (.slice none 0 0)),.c (.val (.pointer none)),.c (.val (.iface t (v k)))],[rdB 1 3 4 5 m,.dead,.dead,tabB tabL,.dead,.dead],⟨rfl,⟨rdE (by rfl) (by rfl) (by rfl) (by rfl) m,rfl,l1 _,l2 _,rfl,rfl,l4 _,l5 _,trivial⟩,rfl⟩,rfl,k,(by omega),hRne k,rfl,rfl⟩
         · rw [if_neg (Nat.not_lt.2 hx4),← hr4] at hF3
           have hXl:((s3.rem L).take x).length = x := by rw [List.length_take]; omega
           have hF4:F = (segsI (sizes.drop (i + 1)) (s4.rem L)).map fun z => ((g0 :: gr) ++ [(s3.rem L).take x] ++ z.1,z.2) := by
             rw [hF3,Option.map_map]
             congr 1
             funext z
             show ((g0 :: gr) ++ (s3.rem L).take x :: z.1,z.2) = _
             rw [List.append_assoc]
             all_goals rfl
           conv => whnf
           refine ⟨[rdB 1 3 4 5 m,srcB 2 L s4,datB L,tabB tabL,.dead,.dead,rowB h,hpB h,rowB sizes,outB 13 (g0 :: gr),.dead,.dead,.cells 74 [.mem 13 (g0 :: gr).length x]] ++ [.fam 5 (encI .u8) 1 ((g0 :: gr) ++ [(s3.rem L).take x])],
             Ghost.joinL 10 11 (H := [rdB 1 3 4 5 m,srcB 2 L s4,datB L,tabB tabL,.dead,.dead,rowB h,hpB h,rowB sizes,outB 10 (g0 :: gr),segB (g0 :: gr),rowB ((s3.rem L).take x),.cells 74 [.vec 11 x]]) (H1 := [rdB 1 3 4 5 m,srcB 2 L s4,datB L,tabB tabL,.dead,.dead,rowB h,hpB h,rowB sizes,outB 13 (g0 :: gr),.dead,.dead,.cells 74 [.mem 13 (g0 :: gr).length x]]) (xss := g0 :: gr) (zs := (s3.rem L).take x) (wr := true) rfl rfl ⟨.keep (by decide) (by decide),.keep (by decide) (by decide),.keep (by decide) (by decide),.keep (by decide) (by decide),.keep (by decide) (by decide),.keep (by decide) (by decide),.keep (by decide) (by decide),.keep (by decide) (by decide),.keep (by decide) (by decide),.vec (by decide) (by decide) rfl (fun y => encF_len _ y) (flat_tau _ _ _ _ _).symm,.dead,.dead,.cells (by decide) (by decide) rfl,trivial⟩,?_⟩
           have htl:(turns ((g0 :: gr).map List.length)).length = i := by rw [turns_len,List.length_map]; exact hsl
           conv => whnf
           refine ⟨by rw [htl]; exact hsl,[((g0 :: gr).length,x)],⟨rfl,rfl,rfl⟩,by rw [List.length_append,htl,List.length_singleton]; omega,by rw [List.length_append,htl,List.length_singleton]; omega,?_⟩
           conv => whnf
           refine ⟨⟨(s4,(g0 :: gr) ++ [(s3.rem L).take x]),hs4,by show ((g0 :: gr) ++ [_]).length = _; rw [List.length_append,hsl]; rfl,hF4⟩,⟨[0,1,2,3,4,5,6,7,8,14,13],⟨rfl,⟨rdE (by rfl) (by rfl) (by rfl) (by rfl) m,rfl,srcE (by rfl) _,rfl,rfl,rfl,rfl,rfl,l4 _,l5 _,rfl,rfl,rfl,rfl,rfl,rfl,?_,rfl,rfl,rfl,trivial⟩,rfl⟩,?_,rfl,rfl,rfl,rfl,rfl,rfl,rfl,trivial⟩⟩
           · show some (Blk.vec true 74 encF [13] 1 (turns ((g0 :: gr).map List.length) ++ [((g0 :: gr).length,x)])) = some (Blk.vec true 74 encF [13] 1 (turns (((g0 :: gr) ++ [(s3.rem L).take x]).map List.length)))
             rw [List.map_append,show [(s3.rem L).take x].map List.length = [x] by rw [List.map_cons,hXl]; rfl,turns_snoc,List.length_map]
           · show some (AV.o (.c (CV.vec 14 (turns ((g0 :: gr).map List.length) ++ [((g0 :: gr).length,x)]).length))) = some (AV.o (.c (CV.vec 14 ((g0 :: gr) ++ [(s3.rem L).take x]).length)))
             rw [List.length_append,htl,List.length_append,hsl]
             rfl
       · cases sg with
         | nil => exact absurd hsl4 (by simp)
         | cons y0 yr =>
           conv => whnf
           exact ⟨⟨(i + 1,s4,y0 :: yr),g,hs4,hsl4,hF4⟩,⟨[0,1,2,3,4,5,6,7,8,9,10],⟨rfl,⟨rdE (by rfl) (by rfl) (by rfl) (by rfl) m,rfl,srcE (by rfl) _,rfl,rfl,rfl,rfl,rfl,l4 _,l5 _,rfl,rfl,rfl,rfl,rfl,rfl,rfl,rfl,rfl,rfl,trivial⟩,rfl⟩,rfl,rfl,rfl,eq_i64 (by rw [nadd,nwrapi (by omega)]),rfl,rfl,rfl,rfl,trivial⟩,by show sizes.length - (i + 1) < sizes.length - i; omega⟩
     · have g:sizes.length ≤ i := lt_f g
       rw [List.drop_of_length_le g] at hF3
       conv => whnf
       exact ⟨⟨(s3,g0 :: gr),by rw [hF3]; show some ((g0 :: gr) ++ [],_) = _; rw [List.append_nil],hs3,by show (g0 :: gr).length = _; omega⟩,[0,1,2,3,4,5,6,7,8,9,10],⟨rfl,⟨rdE (by rfl) (by rfl) (by rfl) (by rfl) m,rfl,srcE (by rfl) _,rfl,rfl,rfl,rfl,rfl,l4 _,l5 _,rfl,rfl,rfl,rfl,rfl,rfl,rfl,rfl,rfl,rfl,trivial⟩,rfl⟩,rfl,rfl,rfl,rfl,rfl,trivial⟩
 · simp only at hF3 hs3 hsl
   rw [hF3] at hG hF
   simp only at hG
   have hfa := segsI_facts sizes Q hF.symm
   have hsg:∀ l ∈ segs,Byt l ∧ l.length ≤ 255 := fun l hl => ⟨(hfa.2.1 (by rw [hQ]; exact (hrb.drop 27).drop _)).2 l hl,hfa.2.2.1 hszb l hl⟩
   cases segs with
   | nil =>
     conv => whnf
     refine Or.inl ?_
     conv => whnf
     refine ⟨fun _ => ?_,fun g => zT g⟩
     conv => whnf
     refine CallsA.ghost (Ghost.trans (Ghost.fam0 w0 _ 5 (encI .u8) 1 (by decide) (fun _ => rfl)) (Ghost.empty 9 encF [10] rfl (encF_len _))) ?_
     refine CallsA.liftK (H0 := [rdB 1 3 4 5 m,.dead,.dead,tabB tabL,.dead,.dead,rowB h,rowB sizes,outB 9 [],segB []]) [0,1,2,3,4,5,6,8,9,10] [rdB 1 3 4 5 m,.dead,.dead,tabB tabL,.dead,.dead,rowB h,hpB h,rowB sizes,outB 10 [],segB []] ⟨rfl,rfl,rfl,rfl,rfl,rfl,rfl,trivial⟩ rfl ⟨rdE (by rfl) (by rfl) (by rfl) (by rfl) m,rfl,l1 _,l2 _,rfl,rfl,l4 _,l5 _,rfl,rfl,rfl,rfl,rfl,rfl,rfl,rfl,trivial⟩ rfl (validateW (segs := []) he m hhb hhl hszb (by omega) hsg (by rw [hsl]; omega)) ?_
     rintro _ _ ⟨rfl,rfl⟩
     by_cases hcrc:le ((h.drop 22).take 4) = crcS (hz h ++ sizes ++ List.flatten [])
     · rw [if_pos hcrc] at hG ⊢
       subst hG
       conv => whnf
       refine ⟨fun g => zF g,fun _ => ?_⟩
       conv => whnf
       exact Or.inr ⟨[0,1,2,3,4,5,7,8,9,10],.t [.c (.vec 8 (List.length [])),.c (.vec 7 sizes.length),.c (.ptr 6 0),.c (.val .nilIface)],[rdB 1 3 4 5 m,srcB 2 L s3,datB L,tabB tabL,.dead,.dead,hpB h,rowB sizes,outB 9 [],segB []],⟨rfl,⟨rdEE (by rfl) (by rfl) (by rfl) (by rfl) (by rfl) (by rfl) (by rfl) (by rfl) m,rfl,srcE (by rfl) _,rfl,rfl,rfl,rfl,rfl,l4 _,l5 _,rfl,rfl,rfl,rfl,rfl,rfl,rfl,rfl,trivial⟩,rfl⟩,rfl,s3,hs3,rfl,rfl,rfl⟩
     · rw [if_neg hcrc] at hG ⊢
       subst hG
       conv => whnf
       refine ⟨fun _ => ?_,fun g => zT g⟩
       conv => whnf
       exact Or.inr ⟨[0,1,2,3,4,5],.t [.c (.val (.slice none 0 0)),.c (.val (.slice none 0 0)),.c (.val (.pointer none)),.c (.val (.iface t (v 5)))],[rdB 1 3 4 5 m,.dead,.dead,tabB tabL,.dead,.dead],⟨rfl,⟨rdEE (by rfl) (by rfl) (by rfl) (by rfl) (by rfl) (by rfl) (by rfl) (by rfl) m,rfl,l1 _,l2 _,rfl,rfl,l4 _,l5 _,trivial⟩,rfl⟩,rfl,5,by omega,hRne 5,rfl,rfl⟩
   | cons g0 gr =>
     conv => whnf
     refine Or.inl ?_
     conv => whnf
     refine ⟨fun _ => ?_,fun g => zT g⟩
     conv => whnf
     refine CallsA.liftK (H0 := [rdB 1 3 4 5 m,.dead,.dead,tabB tabL,.dead,.dead,rowB h,rowB sizes,outB 9 (g0 :: gr),segB (g0 :: gr)]) [0,1,2,3,4,5,6,8,9,10] [rdB 1 3 4 5 m,.dead,.dead,tabB tabL,.dead,.dead,rowB h,hpB h,rowB sizes,outB 10 (g0 :: gr),segB (g0 :: gr)] ⟨rfl,rfl,rfl,rfl,rfl,rfl,rfl,trivial⟩ rfl ⟨rdE (by rfl) (by rfl) (by rfl) (by rfl) m,rfl,l1 _,l2 _,rfl,rfl,l4 _,l5 _,rfl,rfl,rfl,rfl,rfl,rfl,rfl,rfl,trivial⟩ rfl (validateW (segs := (g0 :: gr)) he m hhb hhl hszb (by omega) hsg (by rw [hsl]; omega)) ?_
     rintro _ _ ⟨rfl,rfl⟩
     by_cases hcrc:le ((h.drop 22).take 4) = crcS (hz h ++ sizes ++ List.flatten (g0 :: gr))
     · rw [if_pos hcrc] at hG ⊢
       subst hG
       conv => whnf
       refine ⟨fun g => zF g,fun _ => ?_⟩
       conv => whnf
       exact Or.inr ⟨[0,1,2,3,4,5,7,8,9,10],.t [.c (.vec 8 (List.length (g0 :: gr))),.c (.vec 7 sizes.length),.c (.ptr 6 0),.c (.val .nilIface)],[rdB 1 3 4 5 m,srcB 2 L s3,datB L,tabB tabL,.dead,.dead,hpB h,rowB sizes,outB 9 (g0 :: gr),segB (g0 :: gr)],⟨rfl,⟨rdEE (by rfl) (by rfl) (by rfl) (by rfl) (by rfl) (by rfl) (by rfl) (by rfl) m,rfl,srcE (by rfl) _,rfl,rfl,rfl,rfl,rfl,l4 _,l5 _,rfl,rfl,rfl,rfl,rfl,rfl,rfl,rfl,trivial⟩,rfl⟩,rfl,s3,hs3,rfl,rfl,rfl⟩
     · rw [if_neg hcrc] at hG ⊢
       subst hG
       conv => whnf
       refine ⟨fun _ => ?_,fun g => zT g⟩
       conv => whnf
       exact Or.inr ⟨[0,1,2,3,4,5],.t [.c (.val (.slice none 0 0)),.c (.val (.slice none 0 0)),.c (.val (.pointer none)),.c (.val (.iface t (v 5)))],[rdB 1 3 4 5 m,.dead,.dead,tabB tabL,.dead,.dead],⟨rfl,⟨rdEE (by rfl) (by rfl) (by rfl) (by rfl) (by rfl) (by rfl) (by rfl) (by rfl) m,rfl,l1 _,l2 _,rfl,rfl,l4 _,l5 _,trivial⟩,rfl⟩,rfl,5,by omega,hRne 5,rfl,rfl⟩
end Go.Proofs.YtokkphocaloelaaGreatDoor

end
section
namespace Go.Proofs.YtokkphocaloelaaGreatDoor
open Go Go.Vc
set_option maxRecDepth 100000
set_option maxHeartbeats 8000000

inductive Qs where
 | none
 | sli (o n c:Nat)
 | vec (n:Nat)
 | tl (o n p:Nat)
def Qs.cv (i:Nat):Qs → CV
 | .none => .val (.slice .none 0 0)
 | .sli o n c => .sli i 2 o n c
 | .vec n => .vec i n
 | .tl o n p => .tl i 2 o n p
def parV (i:Nat):Option Nat → CV
 | none => .val (.slice none 0 0)
 | some k => .vec i k
def psB (a b:Nat) (q:Qs) (p:Option Nat) (d:Bool) (li:Nat) (hl:Bool):Blk := .cells 125 [q.cv a,parV b p,.val (.bool d),.val (.int .u32 (li:Nat)),.val (.bool hl)]
theorem psB_ren {σ:List Nat} {a b a' b':Nat} (h1:σ[a]? = some a') (h2:σ[b]? = some b') (q:Qs) (p:Option Nat) (d:Bool) (li:Nat) (hl:Bool):(psB a b q p d li hl).ren σ = psB a' b' q p d li hl := by
 have e1:(q.cv a).ren σ = q.cv a' := by
   cases q with
   | none => rfl
   | sli o n c => simp only [Qs.cv,CV.ren,h1]
   | vec n => simp only [Qs.cv,CV.ren,h1]
   | tl o n p => simp only [Qs.cv,CV.ren,h1]
 have e2:(parV b p).ren σ = parV b' p := by
   cases p with
   | none => rfl
   | some x => simp only [parV,CV.ren,h2]
 show Blk.cells _ [(q.cv a).ren σ,(parV b p).ren σ,_,_,_] = _
 rw [e1,e2]
 rfl
theorem psE {σ:List Nat} {a b a' b':Nat} (h1:σ[a]? = some a') (h2:σ[b]? = some b') (q:Qs) (p:Option Nat) (d:Bool) (li:Nat) (hl:Bool):some (psB a' b' q p d li hl) = some ((psB a b q p d li hl).ren σ) := by rw [psB_ren h1 h2]
theorem getStateW (w0:World) (m:Bool):CallsA Tryz.prog w0 53 [.c (.ptr 0 0)] [rdB 1 3 4 5 m,.dead,.dead,.dead,.dead,.dead] fun r H => r = .o (.c (.ptr 4 0)) ∧ H = [rdB 1 3 4 5 m,.dead,.dead,.dead,.dead,.dead] := by
 refine callsA_of_ev c53_ ?_
 conv => whnf
 refine Or.inl ?_
 conv => whnf
 refine ⟨fun g => zF g,fun _ => ?_⟩
 conv => whnf
 exact Or.inl ⟨rfl,rfl⟩
def mkLi (h:List Int) (li:Nat):Nat := if bt h 26 = 0 then li else le ((h.drop 18).take 4)
def mkHl (h:List Int) (hl:Bool):Bool := if bt h 26 = 0 then hl else true
theorem markReadW (w0:World) (m:Bool) {h:List Int} (q:Qs) (p:Option Nat) (d:Bool) (li:Nat) (hl:Bool):CallsA Tryz.prog w0 85 [.c (.ptr 0 0),.c (.ptr 6 0)] [rdB 1 3 4 5 m,.dead,.dead,.dead,psB 7 8 q p d li hl,.dead,hpB h,.dead,.dead] fun r H =>
   r = .t [] ∧ H = [rdB 1 3 4 5 m,.dead,.dead,.dead,psB 7 8 q p d (mkLi h li) (mkHl h hl),.dead,hpB h,.dead,.dead] := by
 refine callsA_of_ev c85_ ?_
 conv => whnf
 refine Or.inl ?_
 conv => whnf
 refine ⟨fun g => ?_,fun g => ?_⟩
 · have g:bt h 26 = 0 := beq_t (b := 0) g
   rw [show mkLi h li = li from if_pos g,show mkHl h hl = hl from if_pos g]
   conv => whnf
   exact Or.inl ⟨rfl,rfl⟩
 · have g:bt h 26 ≠ 0 := beq_f (b := 0) g
   rw [show mkLi h li = le ((h.drop 18).take 4) from if_neg g,show mkHl h hl = true from if_neg g]
   conv => whnf
   refine CallsA.liftK (H0 := [rdB 1 3 4 5 m,.dead,.dead,.dead,.dead,.dead]) [0,1,2,3,4,5] [rdB 1 3 4 5 m,.dead,.dead,.dead,.dead,.dead,hpB h,.dead,.dead] ⟨rfl,rfl,trivial⟩ rfl ⟨rdE (by rfl) (by rfl) (by rfl) (by rfl) m,rfl,l1 _,l2 _,l3 _,l4 _,l5 _,trivial⟩ rfl (getStateW w0 m) ?_
   rintro _ _ ⟨rfl,rfl⟩
   conv => whnf
   exact Or.inr ⟨[0,1,2,3,4,5,6,7,8],.t [],[rdB 1 3 4 5 m,.dead,.dead,.dead,psB 7 8 q p d (le ((h.drop 18).take 4)) true,.dead,hpB h,.dead,.dead],⟨rfl,⟨rdEE (by rfl) (by rfl) (by rfl) (by rfl) (by rfl) (by rfl) (by rfl) (by rfl) m,rfl,l1 _,l2 _,l3 _,psE (by rfl) (by rfl) q p d _ _,rfl,l5 _,rfl,rfl,show 7 < 9 by decide,show 8 < 9 by decide,trivial⟩,rfl⟩,rfl,rfl,rfl⟩
end Go.Proofs.YtokkphocaloelaaGreatDoor

end
section
namespace Go.Proofs.YtokkphocaloelaaGreatDoor
open Go Go.Vc
set_option maxRecDepth 100000
set_option maxHeartbeats 8000000

def full:Nat → List Int → List (List Int)
 | 0,_ => []
 | n + 1,x => x.take 255 :: full n (x.drop 255)
def lc (x:List Int):List (List Int) := full (x.length / 255) x
def lr (x:List Int):List Int := x.drop (255 * (x.length / 255))
def lace (more:Bool):List (List Int) → List (List Int)
 | [] => []
 | x :: r => lc x ++ (if r = [] ∧ more = true then [] else [lr x]) ++ lace more r
def join:List (List Int) → List Int → List (List Int)
 | [],_ => []
 | x :: r,acc => if x.length < 255 ∨ r = [] then (acc ++ x) :: join r [] else join r (acc ++ x)
theorem lc_cons {a x:List Int} (h:a.length = 255):lc (a ++ x) = a :: lc x ∧ lr (a ++ x) = lr x := by
 unfold lc lr
 rw [List.length_append,h,show (255 + x.length) / 255 = x.length / 255 + 1 by omega]
 constructor
 · rw [full,List.take_left' h,List.drop_left' h]
 · rw [show 255 * (x.length / 255 + 1) = 255 + 255 * (x.length / 255) by omega,← List.drop_drop,List.drop_left' h]
theorem lc_short {x:List Int} (h:x.length < 255):lc x = [] ∧ lr x = x := by
 unfold lc lr
 rw [show x.length / 255 = 0 by omega]
 exact ⟨rfl,by rw [Nat.mul_zero,List.drop_zero]⟩
theorem lc_app:∀ (n:Nat) {a:List Int} (x:List Int),a.length = 255 * n → lc (a ++ x) = lc a ++ lc x ∧ lr (a ++ x) = lr x
 | 0,a,x,h => by
   obtain rfl:a = [] := List.eq_nil_of_length_eq_zero (by omega)
   exact ⟨rfl,rfl⟩
 | n + 1,a,x,h => by
   have h1:(a.take 255).length = 255 := by rw [List.length_take]; omega
   have h2:(a.drop 255).length = 255 * n := by rw [List.length_drop]; omega
   obtain ⟨e1,e2⟩ := lc_app n x h2
   have hs:a = a.take 255 ++ a.drop 255 := (List.take_append_drop 255 a).symm
   obtain ⟨c1,c2⟩ := lc_cons (x := a.drop 255 ++ x) h1
   obtain ⟨d1,_⟩ := lc_cons (x := a.drop 255) h1
   rw [← hs] at d1
   have hs2:a ++ x = a.take 255 ++ (a.drop 255 ++ x) := by rw [← List.append_assoc,← hs]
   rw [hs2,c1,c2,e1,e2,d1]
   exact ⟨rfl,rfl⟩
theorem lc_all {x:List Int}:∀ y ∈ lc x,y.length = 255 := by
 have:∀ (n:Nat) (x:List Int),255 * n ≤ x.length → ∀ y ∈ full n x,y.length = 255 := by
   intro n
   induction n with
   | zero => intro x _ y hy; exact (List.not_mem_nil hy).elim
   | succ n ih =>
     intro x hx y hy
     rcases List.mem_cons.1 hy with rfl | hy
     · rw [List.length_take]; omega
     · exact ih _ (by rw [List.length_drop]; omega) y hy
 exact this _ _ (by omega)
theorem lr_len (x:List Int):(lr x).length < 255 := by
 unfold lr
 rw [List.length_drop]
 omega
theorem lc_lr (x:List Int):(lc x).flatten ++ lr x = x := by
 have:∀ (n:Nat) (x:List Int),(full n x).flatten ++ x.drop (255 * n) = x := by
   intro n
   induction n with
   | zero => intro x; simp [full]
   | succ n ih =>
     intro x
     rw [full,List.flatten_cons,List.append_assoc,show 255 * (n + 1) = 255 + 255 * n by omega,← List.drop_drop,ih,List.take_append_drop]
 exact this _ x
theorem join_ne {x:List Int} {r:List (List Int)}:∀ {acc:List Int},join (x :: r) acc ≠ [] := by
 induction r generalizing x with
 | nil => intro acc; rw [join,if_pos (.inr rfl)]; exact List.cons_ne_nil _ _
 | cons y r ih =>
   intro acc
   rw [join]
   split
   · exact List.cons_ne_nil _ _
   · exact ih
theorem lace_join:∀ (segs:List (List Int)) (acc:List Int) (k:Nat) (more:Bool),segs ≠ [] → (∀ x ∈ segs,x.length ≤ 255) → acc.length = 255 * k → (∀ x,segs.getLast? = some x → (more = true ↔ x.length = 255)) → lace more (join segs acc) = lc acc ++ segs
 | [],_,_,_,h,_,_,_ => absurd rfl h
 | x :: r,acc,k,more,_,hl,ha,hm => by
   obtain ⟨e1,e2⟩ := lc_app k x ha
   have hx := hl x (List.mem_cons_self ..)
   cases r with
   | nil =>
     have hm := hm x rfl
     rw [join,if_pos (.inr rfl)]
     show lc (acc ++ x) ++ (if join [] [] = [] ∧ more = true then [] else [lr (acc ++ x)]) ++ [] = _
     rw [List.append_nil,e1,e2]
     by_cases h:x.length = 255
     · rw [if_pos ⟨rfl,hm.2 h⟩,List.append_nil]
       have := (lc_cons (x := []) h).1
       rw [List.append_nil] at this
       rw [this]
       rfl
     · rw [if_neg (fun c => h (hm.1 c.2))]
       obtain ⟨s1,s2⟩ := lc_short (x := x) (by omega)
       rw [s1,s2,List.append_nil]
   | cons y r =>
     have hm':∀ z,(y :: r).getLast? = some z → (more = true ↔ z.length = 255) := fun z hz => hm z (by rw [List.getLast?_cons_cons]; exact hz)
     have hl':∀ z ∈ y :: r,z.length ≤ 255 := fun z hz => hl z (List.mem_cons_of_mem _ hz)
     rw [join]
     by_cases h:x.length < 255
     · rw [if_pos (.inl h)]
       show lc (acc ++ x) ++ (if join (y :: r) [] = [] ∧ more = true then [] else [lr (acc ++ x)]) ++ lace more (join (y :: r) []) = _
       rw [if_neg (fun c => join_ne c.1),lace_join (y :: r) [] 0 more (List.cons_ne_nil _ _) hl' rfl hm',e1,e2]
       obtain ⟨s1,s2⟩ := lc_short h
       rw [s1,s2,List.append_nil,List.append_assoc]
       rfl
     · rw [if_neg (by rintro (c | c); exact h c; exact List.cons_ne_nil _ _ c),lace_join (y :: r) (acc ++ x) (k + 1) more (List.cons_ne_nil _ _) hl' (by rw [List.length_append]; omega) hm',e1]
       have := (lc_cons (x := []) (a := x) (by omega)).1
       rw [List.append_nil] at this
       rw [this,List.append_assoc]
       rfl
theorem join_lc:∀ (n:Nat) {x:List Int} (acc:List Int) (R:List (List Int)),x.length / 255 = n → join (lc x ++ ([lr x] ++ R)) acc = (acc ++ x) :: join R []
 | 0,x,acc,R,h => by
   obtain ⟨s1,s2⟩ := lc_short (x := x) (by omega)
   rw [s1,s2,List.nil_append,List.singleton_append,join,if_pos (.inl (by omega))]
 | n + 1,x,acc,R,h => by
   have h1:(x.take 255).length = 255 := by rw [List.length_take]; omega
   obtain ⟨c1,c2⟩ := lc_cons (x := x.drop 255) h1
   rw [List.take_append_drop] at c1 c2
   rw [c1,c2,List.cons_append,join,if_neg (by
     rintro (c | c)
     · omega
     · have := congrArg List.length c
       simp at this),join_lc n (acc ++ x.take 255) R (by rw [List.length_drop]; omega),List.append_assoc,List.take_append_drop]
theorem join_last:∀ (n:Nat) {x:List Int} (acc:List Int),x.length = 255 * (n + 1) → join (lc x) acc = [acc ++ x]
 | 0,x,acc,h => by
   have := (lc_cons (x := []) (a := x) (by omega)).1
   rw [List.append_nil] at this
   rw [this,show lc [] = [] from rfl,join,if_pos (.inr rfl)]
   rfl
 | n + 1,x,acc,h => by
   have h1:(x.take 255).length = 255 := by rw [List.length_take]; omega
   obtain ⟨c1,_⟩ := lc_cons (x := x.drop 255) h1
   rw [List.take_append_drop] at c1
   have h2:(x.drop 255).length = 255 * (n + 1) := by rw [List.length_drop]; omega
   have hne:lc (x.drop 255) ≠ [] := by
     unfold lc
     rw [h2,show 255 * (n + 1) / 255 = n + 1 by omega]
     exact List.cons_ne_nil _ _
   rw [c1,join,if_neg (by rintro (c | c); omega; exact hne c),join_last n (acc ++ x.take 255) h2,List.append_assoc,List.take_append_drop]
theorem join_lace:∀ (ps:List (List Int)) (more:Bool),(more = true → ∀ x,ps.getLast? = some x → ∃ n,x.length = 255 * (n + 1)) → join (lace more ps) [] = ps
 | [],_,_ => rfl
 | [x],more,h => by
   show join (lc x ++ (if [] = [] ∧ more = true then [] else [lr x]) ++ []) [] = [x]
   rw [List.append_nil]
   cases more with
   | true =>
     obtain ⟨n,hn⟩ := h rfl x rfl
     rw [if_pos ⟨rfl,rfl⟩,List.append_nil,join_last n [] hn]
     rfl
   | false =>
     rw [if_neg (fun c => Bool.noConfusion c.2)]
     have := join_lc (x.length / 255) [] [] (x := x) rfl
     rw [List.append_nil] at this
     rw [this]
     rfl
 | x :: y :: r,more,h => by
   show join (lc x ++ (if y :: r = [] ∧ more = true then [] else [lr x]) ++ lace more (y :: r)) [] = x :: y :: r
   rw [if_neg (fun c => List.cons_ne_nil _ _ c.1),List.append_assoc,join_lc (x.length / 255) [] _ rfl,join_lace (y :: r) more fun hm z hz => h hm z (by rw [List.getLast?_cons_cons]; exact hz)]
   rfl
end Go.Proofs.YtokkphocaloelaaGreatDoor

end
section
namespace Go.Proofs.YtokkphocaloelaaGreatDoor
open Go Go.Vc
set_option maxRecDepth 100000
set_option maxHeartbeats 8000000

def tot:List Int → Nat
 | [] => 0
 | s :: r => s.toNat + tot r
theorem tot_add (a b:List Int):tot (a ++ b) = tot a + tot b := by
 induction a with
 | nil => simp [tot]
 | cons x r ih => rw [List.cons_append,tot,tot,ih]; omega
theorem segsI_ok:∀ (ss r:List Int),tot ss ≤ r.length → ∃ segs,segsI ss r = some (segs,r.drop (tot ss)) ∧ segs.flatten = r.take (tot ss) ∧ segs.map (fun x => ((x.length:Nat):Int)) = ss.map (fun s => ((s.toNat:Nat):Int))
 | [],r,_ => ⟨[],by simp [segsI,tot],by simp [tot],rfl⟩
 | s :: ss,r,h => by
   rw [tot] at h
   obtain ⟨segs,h1,h2,h3⟩ := segsI_ok ss (r.drop s.toNat) (by rw [List.length_drop]; omega)
   refine ⟨r.take s.toNat :: segs,?_,?_,?_⟩
   · rw [segsI,if_neg (by omega),h1,tot,List.drop_drop]
     rfl
   · rw [List.flatten_cons,h2,tot,List.take_add]
   · rw [List.map_cons,List.map_cons,h3,List.length_take,Nat.min_eq_left (by omega)]
theorem take_split {L:List Int} {f a v:Nat} (hf:f ≤ a) (ha:a ≤ L.length):(L.take (a + v)).drop f = (L.take a).drop f ++ (L.drop a).take v := by
 rw [List.take_add,List.drop_append_of_le_length (by rw [List.length_take]; omega)]
theorem prS_join {b:ByteArray} {n:Nat} {segs:List (List Int)} (hn:27 + n ≤ b.size) (ht:tot (((bytesOf b).drop 27).take n) ≤ b.size - (27 + n)) (hf:segs.flatten = ((bytesOf b).drop (27 + n)).take (tot (((bytesOf b).drop 27).take n)))
   (hl:segs.map (fun x => ((x.length:Nat):Int)) = (((bytesOf b).drop 27).take n).map (fun s => ((s.toNat:Nat):Int))):∀ i,i ≤ n → (prS b n i).1 = 27 + n + (segs.take i).flatten.length ∧
     (prS b n i).2.2.1.map bytesOf ++ join (segs.drop i) (((bytesOf b).take (prS b n i).1).drop (prS b n i).2.1) = join segs []
 | 0,_ => by
   refine ⟨by simp [prS],?_⟩
   show [] ++ join segs (((bytesOf b).take (27 + n)).drop (27 + n)) = _
   rw [List.drop_of_length_le (by rw [List.length_take]; omega)]
   rfl
 | i + 1,hi => by
   obtain ⟨h1,h2⟩ := prS_join hn ht hf hl i (by omega)
   have hfr := prS_from b n i
   have hbl := bytesOf_len b
   have hbb := byt_bytes b
   have hsl:segs.length = n := by
     have := congrArg List.length hl
     rw [List.length_map,List.length_map,List.length_take,List.length_drop,hbl] at this
     omega
   obtain ⟨x,hx⟩:∃ x,segs[i]? = some x := ⟨_,List.getElem?_eq_getElem (by omega)⟩
   have hv:(bytesOf b)[27 + i]? = some ((bt (bytesOf b) (27 + i):Nat):Int) := bt_at hbb (by omega)
   obtain ⟨v,hvv⟩:∃ v,v = bt (bytesOf b) (27 + i) := ⟨_,rfl⟩
   have hv8:v < 256 := by rw [hvv]; exact bt_lt hbb _
   rw [← hvv] at hv
   have hxl:x.length = v := by
     have e1 := congrArg (fun l => l[i]?) hl
     simp only [List.getElem?_map,hx,List.getElem?_take,List.getElem?_drop,if_pos (show i < n by omega),hv,Option.map_some,Option.some.injEq] at e1
     omega
   have hdr:segs.drop i = x :: segs.drop (i + 1) := List.drop_eq_getElem?_toList_append.trans (by rw [hx]; rfl)
   have htk:(segs.take (i + 1)).flatten = (segs.take i).flatten ++ x := by
     rw [List.take_add_one,hx,List.flatten_append]
     simp
   have hle:(segs.take (i + 1)).flatten.length ≤ tot (((bytesOf b).drop 27).take n) := by
     have e1:segs.flatten = (segs.take (i + 1)).flatten ++ (segs.drop (i + 1)).flatten := by rw [← List.flatten_append,List.take_append_drop]
     have e2 := congrArg List.length hf
     rw [e1,List.length_append,List.length_take] at e2
     omega
   have hxe:x = ((bytesOf b).drop (27 + n + (segs.take i).flatten.length)).take v := by
     have e1:segs.flatten = (segs.take i).flatten ++ (x ++ (segs.drop (i + 1)).flatten) := by
       rw [← List.append_assoc,← htk,← List.flatten_append,List.take_append_drop]
     rw [hf] at e1
     have e2:((((bytesOf b).drop (27 + n)).take (tot (((bytesOf b).drop 27).take n))).drop (segs.take i).flatten.length).take v = (((segs.take i).flatten ++ (x ++ (segs.drop (i + 1)).flatten)).drop (segs.take i).flatten.length).take v := by rw [e1]
     rw [List.drop_left,List.take_left' hxl,List.drop_take,List.drop_drop,List.take_take,Nat.min_eq_left (by rw [htk,List.length_append] at hle; omega)] at e2
     exact e2.symm
   rw [htk,List.length_append,hxl] at hle
   have hat:(prS b n (i + 1)).1 = (prS b n i).1 + v := by rw [prS_at,← hvv]
   refine ⟨by rw [hat,h1,htk,List.length_append,hxl]; omega,?_⟩
   rw [hdr,join] at h2
   have hsp:((bytesOf b).take ((prS b n i).1 + v)).drop (prS b n i).2.1 = ((bytesOf b).take (prS b n i).1).drop (prS b n i).2.1 ++ x := by
     rw [take_split hfr (by omega),h1,← hxe]
   have hnil:segs.drop (i + 1) = [] ↔ i + 1 = n := by
     constructor
     · intro h
       have := congrArg List.length h
       rw [List.length_drop,List.length_nil] at this
       omega
     · intro h
       exact List.drop_of_length_le (by omega)
   have hstep:prS b n (i + 1) = if v < 255 ∨ i + 1 = n then ((prS b n i).1 + v,(prS b n i).1 + v,(prS b n i).2.2.1 ++ [b.extract (prS b n i).2.1 ((prS b n i).1 + v)],decide (v = 255)) else ((prS b n i).1 + v,(prS b n i).2.1,(prS b n i).2.2.1,(prS b n i).2.2.2) := by rw [hvv]; rfl
   rw [hstep]
   by_cases c:v < 255 ∨ i + 1 = n
   · rw [if_pos c]
     rw [if_pos (by rw [hxl,hnil]; exact c)] at h2
     show ((prS b n i).2.2.1 ++ [_]).map bytesOf ++ join (segs.drop (i + 1)) (((bytesOf b).take ((prS b n i).1 + v)).drop ((prS b n i).1 + v)) = _
     rw [show ((bytesOf b).take ((prS b n i).1 + v)).drop ((prS b n i).1 + v) = [] from List.drop_of_length_le (by rw [List.length_take]; omega),List.map_append,List.map_cons,List.map_nil,bytes_ext,hsp,List.append_assoc]
     exact h2
   · rw [if_neg c]
     rw [if_neg (by rw [hxl,hnil]; exact c)] at h2
     show (prS b n i).2.2.1.map bytesOf ++ join (segs.drop (i + 1)) (((bytesOf b).take ((prS b n i).1 + v)).drop (prS b n i).2.1) = _
     rw [hsp]
     exact h2
theorem prS_more (b:ByteArray) (n:Nat):(prS b n n).2.2.2 = (decide (0 < n) && decide (bt (bytesOf b) (26 + n) = 255)) := by
 cases n with
 | zero => rfl
 | succ k =>
   simp only [prS]
   rw [if_pos (.inr trivial)]
   show decide _ = _
   rw [show 27 + k = 26 + (k + 1) by omega]
   simp
structure Reads (b:ByteArray) (p:Pg) (k:Nat) (g:PgI):Prop where
 par:p.parts.map bytesOf = join g.segs []
 mor:p.more = true → g.segs ≠ []
 las:∀ x,g.segs.getLast? = some x → (p.more = true ↔ x.length = 255)
 len:∀ x ∈ g.segs,x.length ≤ 255
 hdr:g.hdr = (bytesOf b).take 27
 siz:g.sizes = g.segs.map fun x => ((x.length:Nat):Int)
 gra:le ((g.hdr.drop 6).take 8) = p.gran
 fla:(bt g.hdr 5:Int) = p.flags
 seq:le ((g.hdr.drop 18).take 4) = p.seq
 sig:g.hdr.take 5 = oggS
 cnt:bt g.hdr 26 = g.segs.length
theorem sizes_len {l:List Int} (h:Byt l):l.map (fun s => ((s.toNat:Nat):Int)) = l := by
 conv => rhs; rw [← List.map_id l]
 apply List.map_congr_left
 intro x hx
 have := h x hx
 show ((x.toNat:Nat):Int) = x
 omega
theorem hz27 {L:List Int}:hz (L.take 27) = L.take 22 ++ [0,0,0,0] ++ (L.take 27).drop 26 := by
 unfold hz
 rw [List.take_take]
 rfl
theorem last_bt {L:List Int} (hL:Byt L) {n:Nat} {x:List Int} {segs:List (List Int)} (hn:27 + n ≤ L.length) (hs:segs.map (fun x => ((x.length:Nat):Int)) = (L.drop 27).take n) (hx:segs.getLast? = some x):bt L (26 + n) = x.length ∧ 0 < n := by
 have hsl:segs.length = n := by
   have := congrArg List.length hs
   rw [List.length_map,List.length_take,List.length_drop] at this
   omega
 rw [List.getLast?_eq_getElem?] at hx
 have hn0:0 < n := by
   have := (List.getElem?_eq_some_iff.1 hx).1
   omega
 have e1 := congrArg (fun l => l[n - 1]?) hs
 simp only [List.getElem?_map,List.getElem?_take,List.getElem?_drop,if_pos (show n - 1 < n by omega)] at e1
 rw [← hsl,hx,show 27 + (segs.length - 1) = 26 + segs.length by omega,bt_at hL (by omega)] at e1
 simp only [Option.map_some,Option.some.injEq] at e1
 rw [hsl] at e1
 exact ⟨by omega,hn0⟩
theorem sub27 {L:List Int} {a c:Nat} (h:a + c ≤ 27):((L.take 27).drop a).take c = (L.take (a + c)).drop a := by rw [List.take_drop,List.take_take,Nat.min_eq_left h]
theorem pageP_I {b:ByteArray} {p:Pg} {k:Nat} (h:pageP b = some (p,k)):∃ g,pageI (bytesOf b) = some (g,(bytesOf b).drop k) ∧ Reads b p k g := by
 have hbl := bytesOf_len b
 have hbb := byt_bytes b
 unfold pageP at h
 simp only at h
 split at h
 · cases h
 rename_i hno
 obtain ⟨n,hn⟩:∃ n,n = bt (bytesOf b) 26 := ⟨_,rfl⟩
 rw [← hn] at h hno
 have n1:27 ≤ b.size := by
   rcases Nat.lt_or_ge b.size 27 with c | c
   · exact absurd (.inl c) hno
   · exact c
 have n2:(bytesOf b).take 5 = oggS := Classical.byContradiction fun c => hno (.inr (.inl c))
 have n3:27 + n ≤ b.size := by
   rcases Nat.lt_or_ge b.size (27 + n) with c | c
   · exact absurd (.inr (.inr (.inl c))) hno
   · exact c
 have n4:(prS b n n).1 ≤ b.size := by
   rcases Nat.lt_or_ge b.size (prS b n n).1 with c | c
   · exact absurd (.inr (.inr (.inr (.inl c)))) hno
   · exact c
 have n5:crcS ((bytesOf b).take 22 ++ [0,0,0,0] ++ ((bytesOf b).take (prS b n n).1).drop 26) = le (((bytesOf b).take 26).drop 22) := Classical.byContradiction fun c => hno (.inr (.inr (.inr (.inr c))))
 have hprt:∀ i,i ≤ n → (prS b n i).1 = 27 + n + tot ((((bytesOf b).drop 27).take n).take i) := by
   intro i
   induction i with
   | zero => intro _; simp [prS,tot]
   | succ i ih =>
     intro hi
     rw [prS_at,ih (by omega),List.take_add_one,tot_add,List.getElem?_take,if_pos (by omega),List.getElem?_drop,bt_at hbb (by omega)]
     show _ = 27 + n + (_ + ((((bt (bytesOf b) (27 + i):Nat):Int)).toNat + 0))
     omega
 have hT:(prS b n n).1 = 27 + n + tot (((bytesOf b).drop 27).take n) := by
   rw [hprt n (Nat.le_refl _),List.take_of_length_le (by rw [List.length_take]; omega)]
 have ht:tot (((bytesOf b).drop 27).take n) ≤ b.size - (27 + n) := by omega
 obtain ⟨segs,s1,s2,s3⟩ := segsI_ok (((bytesOf b).drop 27).take n) ((bytesOf b).drop (27 + n)) (by rw [List.length_drop,hbl]; exact ht)
 have hj := (prS_join n3 ht s2 s3 n (Nat.le_refl _)).2
 have hsl:segs.length = n := by
   have := congrArg List.length s3
   rw [List.length_map,List.length_map,List.length_take,List.length_drop,hbl] at this
   omega
 rw [List.drop_of_length_le (by omega)] at hj
 have hj:(prS b n n).2.2.1.map bytesOf = join segs [] := by
   rw [← hj]
   show _ = _ ++ []
   rw [List.append_nil]
 rw [sizes_len ((hbb.drop 27).take n)] at s3
 have hmore := prS_more b n
 have hdrop:(bytesOf b).drop (prS b n n).1 = ((bytesOf b).drop (27 + n)).drop (tot (((bytesOf b).drop 27).take n)) := by rw [List.drop_drop,hT]
 cases h
 refine ⟨⟨(bytesOf b).take 27,((bytesOf b).drop 27).take n,segs⟩,?_,⟨hj,fun hm hs => ?_,fun x hx => ?_,fun x hx => ?_,rfl,s3.symm,?_,?_,?_,?_,?_⟩⟩
 · unfold pageI
   rw [if_neg (by omega),← hn,if_neg (by omega),s1]
   simp only
   rw [if_pos ?_,hdrop]
   rw [hz27,s2,sub27 (a := 22) (c := 4) (by omega),← n5]
   have hd:((bytesOf b).take (prS b n n).1).drop 26 = ((bytesOf b).take 27).drop 26 ++ ((bytesOf b).drop 27).take n ++ ((bytesOf b).drop (27 + n)).take (tot (((bytesOf b).drop 27).take n)) := by
     rw [hT,List.take_add,List.drop_append_of_le_length (by rw [List.length_take]; omega),List.take_add,List.drop_append_of_le_length (by rw [List.length_take]; omega)]
   rw [hd]
   simp only [List.append_assoc]
 · rw [hmore] at hm
   have:segs = [] := hs
   rw [this] at hsl
   have h0:n = 0 := by rw [← hsl]; rfl
   rw [h0] at hm
   exact Bool.noConfusion hm
 · obtain ⟨q1,q2⟩ := last_bt hbb (by omega) s3 hx
   show (prS b n n).2.2.2 = true ↔ _
   rw [hmore,q1]
   simp [q2]
 · obtain ⟨i,hi,rfl⟩ := List.mem_iff_getElem.1 hx
   have hi:i < segs.length := hi
   have e1:(segs.map fun x => ((x.length:Nat):Int))[i]? = some ((segs[i].length:Nat):Int) := by rw [List.getElem?_map,List.getElem?_eq_getElem hi]; rfl
   rw [s3] at e1
   have h256:((segs[i].length:Nat):Int) < 256 := ((hbb.drop 27).take n _ (List.mem_of_getElem? e1)).2
   show segs[i].length ≤ 255
   omega
 · show le ((((bytesOf b).take 27).drop 6).take 8) = le (((bytesOf b).take 14).drop 6)
   rw [sub27 (by omega)]
 · show ((bt ((bytesOf b).take 27) 5:Nat):Int) = ((bt (bytesOf b) 5:Nat):Int)
   unfold bt
   rw [List.getD_eq_getElem?_getD,List.getD_eq_getElem?_getD,List.getElem?_take,if_pos (by decide)]
 · show le ((((bytesOf b).take 27).drop 18).take 4) = le (((bytesOf b).take 22).drop 18)
   rw [sub27 (by omega)]
 · show ((bytesOf b).take 27).take 5 = oggS
   rw [List.take_take]
   exact n2
 · show bt ((bytesOf b).take 27) 26 = segs.length
   rw [hsl,hn]
   unfold bt
   rw [List.getD_eq_getElem?_getD,List.getD_eq_getElem?_getD,List.getElem?_take,if_pos (by decide)]
end Go.Proofs.YtokkphocaloelaaGreatDoor

end
section
namespace Go.Proofs.YtokkphocaloelaaGreatDoor
open Go Go.Vc
set_option maxRecDepth 100000
set_option maxHeartbeats 8000000

theorem leL_cons (n k:Nat):leL n (k + 1) = ((n % 256:Nat):Int) :: leL (n / 256) k := by
 unfold leL
 rw [List.range_succ_eq_map,List.map_cons,List.map_map]
 congr 1
 · simp
 · apply List.map_congr_left
   intro i _
   show ((n / 256 ^ (i + 1) % 256:Nat):Int) = ((n / 256 / 256 ^ i % 256:Nat):Int)
   rw [Nat.pow_succ,Nat.div_div_eq_div_mul,Nat.mul_comm (256 ^ i)]
theorem le_leL:∀ (k n:Nat),n < 256 ^ k → le (leL n k) = n
 | 0,n,h => by
   have:n = 0 := by simpa using h
   subst this
   rfl
 | k + 1,n,h => by
   rw [leL_cons,le,Int.toNat_natCast,le_leL k (n / 256) (by rw [Nat.pow_succ] at h; omega)]
   omega
def Pg.pts (p:Pg):List (List Int) := p.parts.map bytesOf
def Pg.segs (p:Pg):List (List Int) := lace p.more p.pts
def lenI (l:List (List Int)):List Int := l.map fun x => ((x.length:Nat):Int)
structure Pg.good (p:Pg):Prop where
 ser:p.ser < 4294967296
 seq:p.seq < 4294967296
 gran:p.gran < 18446744073709551616
 fl0:0 ≤ p.flags
 fl7:p.flags ≤ 7
 cnt:p.segs.length ≤ 255
 mor:p.more = true → p.pts ≠ [] ∧ ∀ x,p.pts.getLast? = some x → ∃ n,x.length = 255 * (n + 1)
def pgHd (p:Pg):List Int := oggS ++ [p.flags] ++ leL p.gran 8 ++ leL p.ser 4 ++ leL p.seq 4
def pgTl (p:Pg):List Int := [((p.segs.length:Nat):Int)] ++ lenI p.segs ++ p.pts.flatten
def pgSum (p:Pg):Nat := crcS (pgHd p ++ [0,0,0,0] ++ pgTl p)
def pgEnc (p:Pg):List Int := pgHd p ++ leL (pgSum p) 4 ++ pgTl p
theorem pgHd_len (p:Pg):(pgHd p).length = 22 := by
 unfold pgHd oggS
 simp only [List.length_append,leL_len,List.length_cons,List.length_nil]
theorem lace_flat:∀ (ps:List (List Int)) (more:Bool),(more = true → ∀ x,ps.getLast? = some x → ∃ n,x.length = 255 * (n + 1)) → (lace more ps).flatten = ps.flatten
 | [],_,_ => rfl
 | [x],more,h => by
   show (lc x ++ (if [] = [] ∧ more = true then [] else [lr x]) ++ []).flatten = [x].flatten
   rw [List.append_nil,List.flatten_append]
   cases more with
   | true =>
     obtain ⟨n,hn⟩ := h rfl x rfl
     rw [if_pos ⟨rfl,rfl⟩]
     have:lr x = [] := by
       unfold lr
       rw [List.drop_of_length_le (by omega)]
     have h2 := lc_lr x
     rw [this,List.append_nil] at h2
     rw [h2]
     simp
   | false =>
     rw [if_neg (fun c => Bool.noConfusion c.2),List.flatten_singleton,lc_lr,List.flatten_singleton]
 | x :: y :: r,more,h => by
   show (lc x ++ (if y :: r = [] ∧ more = true then [] else [lr x]) ++ lace more (y :: r)).flatten = _
   rw [if_neg (fun c => List.cons_ne_nil _ _ c.1),List.flatten_append,List.flatten_append,List.flatten_singleton,lc_lr,lace_flat (y :: r) more fun hm z hz => h hm z (by rw [List.getLast?_cons_cons]; exact hz)]
   rfl
theorem lace_all (more:Bool):∀ (ps:List (List Int)),∀ x ∈ lace more ps,x.length ≤ 255
 | [],x,hx => (List.not_mem_nil hx).elim
 | y :: r,x,hx => by
   rcases List.mem_append.1 hx with hx | hx
   · rcases List.mem_append.1 hx with hx | hx
     · rw [lc_all x hx]; exact Nat.le_refl _
     · split at hx
       · exact (List.not_mem_nil hx).elim
       · rw [List.mem_singleton.1 hx]
         have := lr_len y
         omega
   · exact lace_all more r x hx
theorem lace_last:∀ (ps:List (List Int)) (more:Bool),ps ≠ [] → (more = true → ∀ x,ps.getLast? = some x → ∃ n,x.length = 255 * (n + 1)) → ∃ x,(lace more ps).getLast? = some x ∧ (more = true ↔ x.length = 255)
 | [],_,h,_ => absurd rfl h
 | [x],more,_,h => by
   have e0:lace more [x] = lc x ++ (if ([]:List (List Int)) = [] ∧ more = true then [] else [lr x]) := List.append_nil _
   rw [e0]
   cases more with
   | true =>
     obtain ⟨n,hn⟩ := h rfl x rfl
     rw [if_pos ⟨rfl,rfl⟩,List.append_nil]
     have hne:lc x ≠ [] := by
       unfold lc
       rw [hn,show 255 * (n + 1) / 255 = n + 1 by omega]
       exact List.cons_ne_nil _ _
     exact ⟨_,List.getLast?_eq_some_getLast hne,fun _ => lc_all _ (List.getLast_mem hne),fun _ => rfl⟩
   | false =>
     rw [if_neg (fun c => Bool.noConfusion c.2)]
     refine ⟨lr x,by simp,fun c => Bool.noConfusion c,fun c => ?_⟩
     have := lr_len x
     omega
 | x :: y :: r,more,_,h => by
   obtain ⟨z,h1,h2⟩ := lace_last (y :: r) more (List.cons_ne_nil _ _) fun hm z hz => h hm z (by rw [List.getLast?_cons_cons]; exact hz)
   refine ⟨z,?_,h2⟩
   show (lc x ++ (if y :: r = [] ∧ more = true then [] else [lr x]) ++ lace more (y :: r)).getLast? = some z
   rw [List.getLast?_append,h1]
   rfl
theorem tot_lens (l:List (List Int)):tot (lenI l) = l.flatten.length := by
 induction l with
 | nil => rfl
 | cons x r ih =>
   show (((x.length:Nat):Int)).toNat + tot (lenI r) = _
   rw [ih,List.flatten_cons,List.length_append,Int.toNat_natCast]
theorem byt_leL (n k:Nat):Byt (leL n k) := leL_bytes n k
theorem pts_byt (p:Pg):Byt p.pts.flatten := fun y hy => by
 obtain ⟨z,hz1,hz2⟩ := List.mem_flatten.1 hy
 obtain ⟨b,_,rfl⟩ := List.mem_map.1 hz1
 exact byt_bytes b y hz2
theorem pgHd_byt {p:Pg} (hg:p.good):Byt (pgHd p) := by
 refine ((((?_:Byt oggS).append ?_).append (byt_leL _ _)).append (byt_leL _ _)).append (byt_leL _ _)
 · intro x hx
   simp only [oggS,List.mem_cons,List.not_mem_nil,or_false] at hx
   omega
 · intro x hx
   have h0 := hg.fl0
   have h7 := hg.fl7
   rw [List.mem_singleton.1 hx]
   omega
theorem pgTl_byt {p:Pg} (hg:p.good):Byt (pgTl p) := by
 refine (Byt.append ?_ ?_).append (pts_byt p)
 · intro x hx
   have := hg.cnt
   rw [List.mem_singleton.1 hx]
   omega
 · intro x hx
   obtain ⟨y,hy,rfl⟩ := List.mem_map.1 hx
   have := lace_all p.more p.pts y hy
   omega
theorem zero4_byt:Byt [0,0,0,0] := fun x hx => by
 simp at hx
 subst hx
 decide
theorem pgSum_lt {p:Pg} (hg:p.good):pgSum p < 4294967296 := crcS_lt (((pgHd_byt hg).append zero4_byt).append (pgTl_byt hg))
theorem pgEnc_byt {p:Pg} (hg:p.good):Byt (pgEnc p) := ((pgHd_byt hg).append (byt_leL _ _)).append (pgTl_byt hg)
theorem segs_flat {p:Pg} (hg:p.good):p.segs.flatten = p.pts.flatten := lace_flat _ _ fun hm => (hg.mor hm).2
theorem pgEnc_len {p:Pg} (hg:p.good):(pgEnc p).length = 27 + p.segs.length + p.segs.flatten.length := by
 unfold pgEnc pgTl lenI
 simp only [List.length_append,leL_len,pgHd_len,List.length_cons,List.length_nil,List.length_map,segs_flat hg]
 omega
structure Lay (p:Pg) (L rest:List Int):Prop where
 t22:L.take 22 = pgHd p
 crc:(L.take 26).drop 22 = leL (pgSum p) 4
 cnt:bt L 26 = p.segs.length
 siz:(L.drop 27).take p.segs.length = lenI p.segs
 bod:L.drop (27 + p.segs.length) = p.segs.flatten ++ rest
 d26:(L.take (pgEnc p).length).drop 26 = pgTl p
theorem lay_of {p:Pg} (hg:p.good) (rest:List Int):Lay p (pgEnc p ++ rest) rest := by
 have h22 := pgHd_len p
 have hc:(leL (pgSum p) 4).length = 4 := leL_len _ _
 have e1:pgEnc p ++ rest = pgHd p ++ (leL (pgSum p) 4 ++ (pgTl p ++ rest)) := by
   unfold pgEnc
   simp only [List.append_assoc]
 have e2:pgEnc p ++ rest = (pgHd p ++ leL (pgSum p) 4) ++ (((p.segs.length:Nat):Int) :: (lenI p.segs ++ (p.pts.flatten ++ rest))) := by
   unfold pgEnc pgTl
   simp only [List.append_assoc]
   rfl
 have hl26:(pgHd p ++ leL (pgSum p) 4).length = 26 := by rw [List.length_append,h22,hc]
 have e3:pgEnc p ++ rest = (pgHd p ++ leL (pgSum p) 4 ++ [((p.segs.length:Nat):Int)]) ++ (lenI p.segs ++ (p.pts.flatten ++ rest)) := by
   rw [e2,List.append_assoc,List.append_assoc,List.append_assoc]
   rfl
 have hl27:(pgHd p ++ leL (pgSum p) 4 ++ [((p.segs.length:Nat):Int)]).length = 27 := by rw [List.length_append,hl26]; rfl
 have hll:(lenI p.segs).length = p.segs.length := by unfold lenI; rw [List.length_map]
 refine ⟨?_,?_,?_,?_,?_,?_⟩
 · rw [e1,List.take_left' h22]
 · rw [e2,List.take_left' hl26,List.drop_left' h22]
 · rw [e2]
   unfold bt
   rw [List.getD_eq_getElem?_getD,List.getElem?_append_right (by omega),hl26]
   exact Int.toNat_natCast _
 · rw [e3,List.drop_left' hl27,List.take_left' hll]
 · rw [← List.drop_drop,e3,List.drop_left' hl27,List.drop_left' hll,segs_flat hg]
 · rw [List.take_left' rfl]
   unfold pgEnc
   rw [List.drop_left' hl26]
theorem pageP_enc {p:Pg} (hg:p.good) {b:ByteArray} {rest:List Int} (hb:bytesOf b = pgEnc p ++ rest):pageP b = some (p,(pgEnc p).length) := by
 have hbl := bytesOf_len b
 have hbb := byt_bytes b
 have lay := lay_of hg rest
 have hel := pgEnc_len hg
 rw [← hb] at lay
 obtain ⟨n,hn⟩:∃ n,n = p.segs.length := ⟨_,rfl⟩
 have hlen:b.size = (pgEnc p).length + rest.length := by rw [← hbl,hb,List.length_append]
 have hcnt:bt (bytesOf b) 26 = n := by rw [lay.cnt,hn]
 have hsiz:((bytesOf b).drop 27).take n = lenI p.segs := by rw [hn]; exact lay.siz
 have hbod:(bytesOf b).drop (27 + n) = p.segs.flatten ++ rest := by rw [hn]; exact lay.bod
 have ht:tot (((bytesOf b).drop 27).take n) = p.segs.flatten.length := by rw [hsiz,tot_lens]
 have hT:(prS b n n).1 = (pgEnc p).length ∧ (prS b n n).2.2.1.map bytesOf = join p.segs [] := by
   have hj := prS_join (b := b) (n := n) (segs := p.segs) (by omega) (by rw [ht]; omega) (by rw [ht,hbod,List.take_left]) (by
     rw [hsiz]
     exact (sizes_len (by
       intro x hx
       obtain ⟨y,hy,rfl⟩ := List.mem_map.1 hx
       have := lace_all p.more p.pts y hy
       omega)).symm) n (Nat.le_refl _)
   rw [List.take_of_length_le (by omega),List.drop_of_length_le (by omega)] at hj
   refine ⟨by rw [hj.1,hel,hn],?_⟩
   rw [← hj.2]
   show _ = _ ++ []
   rw [List.append_nil]
 have hparts:(prS b n n).2.2.1 = p.parts := by
   have h1:(prS b n n).2.2.1.map bytesOf = p.parts.map bytesOf := by
     rw [hT.2]
     exact join_lace _ _ fun hm => (hg.mor hm).2
   have inj:∀ {l l':List ByteArray},l.map bytesOf = l'.map bytesOf → l = l' := by
     intro l
     induction l with
     | nil => intro l' h; cases l' with | nil => rfl | cons => cases h
     | cons x r ih =>
       intro l' h
       cases l' with
       | nil => cases h
       | cons y r' =>
         simp only [List.map_cons,List.cons.injEq] at h
         rw [bytes_inj h.1,ih h.2]
   exact inj h1
 have hmore:(prS b n n).2.2.2 = p.more := by
   rw [prS_more]
   by_cases hp:p.pts = []
   · have hs:p.segs = [] := by unfold Pg.segs; rw [hp]; rfl
     have hm:p.more = false := by
       cases h:p.more with
       | false => rfl
       | true => exact absurd hp (hg.mor h).1
     rw [hm,show n = 0 by rw [hn,hs]; rfl]
     rfl
   · obtain ⟨x,hx1,hx2⟩ := lace_last p.pts p.more hp fun hm => (hg.mor hm).2
     obtain ⟨q1,q2⟩ := last_bt hbb (n := n) (segs := p.segs) (by omega) (by rw [hsiz]; rfl) hx1
     rw [q1]
     cases h:p.more with
     | true => simp [q2,hx2.1 h]
     | false =>
       have:x.length ≠ 255 := fun c => by rw [hx2.2 c] at h; cases h
       simp [this]
 have f1:((bytesOf b).take 18).drop 14 = leL p.ser 4 ∧ ((bytesOf b).take 22).drop 18 = leL p.seq 4 ∧ ((bytesOf b).take 14).drop 6 = leL p.gran 8 ∧ (bytesOf b).take 5 = oggS ∧ bt (bytesOf b) 5 = p.flags.toNat := by
   have e:∀ c,c ≤ 22 → (bytesOf b).take c = (pgHd p).take c := fun c hc => by rw [← lay.t22,List.take_take,Nat.min_eq_left hc]
   rw [e 18 (by omega),e 22 (by omega),e 14 (by omega),e 5 (by omega)]
   have h8:(leL p.gran 8).length = 8 := leL_len _ _
   have h4:(leL p.ser 4).length = 4 := leL_len _ _
   have h4':(leL p.seq 4).length = 4 := leL_len _ _
   have h6:(oggS ++ [p.flags]).length = 6 := rfl
   have h14:(oggS ++ [p.flags] ++ leL p.gran 8).length = 14 := by rw [List.length_append,h6,h8]
   have h18:(oggS ++ [p.flags] ++ leL p.gran 8 ++ leL p.ser 4).length = 18 := by rw [List.length_append,h14,h4]
   refine ⟨?_,?_,?_,?_,?_⟩
   · unfold pgHd
     rw [List.take_left' h18,List.drop_left' h14]
   · rw [List.take_of_length_le (Nat.le_of_eq (pgHd_len p))]
     unfold pgHd
     rw [List.drop_left' h18]
   · unfold pgHd
     rw [List.append_assoc,List.take_left' h14,List.drop_left' h6]
   · unfold pgHd
     rw [List.append_assoc,List.append_assoc,List.append_assoc]
     exact List.take_left' rfl
   · have hat:(bytesOf b)[5]? = (pgHd p)[5]? := by rw [← lay.t22,List.getElem?_take,if_pos (by decide)]
     unfold bt
     rw [List.getD_eq_getElem?_getD,hat]
     rfl
 obtain ⟨f1,f2,f3,f4,f5⟩ := f1
 have hfl:(((p.flags.toNat:Nat)):Int) = p.flags := Int.toNat_of_nonneg hg.fl0
 unfold pageP
 simp only
 rw [hcnt,hT.1,if_neg ?_,f1,f2,f3,f5,hparts,hmore,le_leL 4 _ (by exact hg.ser),le_leL 4 _ (by exact hg.seq),le_leL 8 _ (by exact hg.gran),hfl]
 rintro (h | h | h | h | h)
 · omega
 · exact h f4
 · omega
 · omega
 · apply h
   rw [lay.t22,lay.d26,lay.crc,le_leL 4 _ (pgSum_lt hg)]
   rfl
end Go.Proofs.YtokkphocaloelaaGreatDoor

end
section
namespace Go.Proofs.YtokkphocaloelaaGreatDoor
open Go Go.Vc
set_option maxRecDepth 100000
set_option maxHeartbeats 8000000

def strsAt (w0:World) (v:Value) (ss:List ByteArray):Prop :=
 (v = .slice none 0 0 ∧ ss = []) ∨ ∃ a c,v = .slice (some a) ss.length c ∧ ss.length ≤ c ∧ ∀ (i:Nat) s,ss[i]? = some s → w0.cell? (a.add (i * 1)) = some (.string s)
def szV (i:Nat) (l:List Int):CV := match l with
 | [] => .val (.slice none 0 0)
 | _ :: _ => .vec i l.length
def szH (l:List Int):List Blk := match l with
 | [] => []
 | _ :: _ => [rowB l]
def pgA (p:Pg) (v:Value):List CV := [.val (.int .u32 p.ser),.val (.int .u32 p.seq),.val (.int .u64 p.gran),.val (.int .i64 p.flags),.val v,.val (.bool p.more)]
def Pg.bad (p:Pg):Prop := p.more = true ∧ ∃ x,p.pts.getLast? = some x ∧ ¬ ∃ n,x.length = 255 * (n + 1)
theorem lenI_app (a b:List (List Int)):lenI (a ++ b) = lenI a ++ lenI b := by unfold lenI; rw [List.map_append]
theorem lenI_lc (x:List Int):lenI (lc x) = List.replicate (x.length / 255) 255 := by
 have:∀ (n:Nat) (x:List Int),255 * n ≤ x.length → lenI (full n x) = List.replicate n 255 := by
   intro n
   induction n with
   | zero => intro x _; rfl
   | succ n ih =>
     intro x hx
     show ((((x.take 255).length:Nat):Int)) :: lenI (full n (x.drop 255)) = _
     rw [ih _ (by rw [List.length_drop]; omega),List.length_take,Nat.min_eq_left (by omega),List.replicate_succ]
     rfl
 exact this _ x (by omega)
theorem lenI_lr (x:List Int):lenI [lr x] = [((x.length % 255:Nat):Int)] := by
 show [((((lr x).length:Nat)):Int)] = _
 unfold lr
 rw [List.length_drop]
 congr 2
 omega
def sgE (v:Value) (m i:Nat) (out:List Int):Env := [(1,.o (.c (.ptr 0 0))),(4,.o (.c (szV 1 out))),(9,.o (.c (.val v))),(10,.o (.c (.val (.int .i64 (m:Nat))))),(11,.o (.c (.val (.int .i64 (i:Nat)))))]
def sgH (p:Pg) (v:Value) (out:List Int):List Blk := .cells 57 (pgA p v) :: szH out
theorem segmentsW (w0:World) {p:Pg} {v:Value} (hv:strsAt w0 v p.parts) (hl:p.parts.length ≤ 1099511627776) (hz:∀ s ∈ p.parts,s.size ≤ 1099511627776) (hs:p.segs.length ≤ 1099511627776) :
   CallsA Tryz.prog w0 87 [.a (pgA p v)] [] fun r H =>
     (p.bad ∧ r = .t [.c (.val (.slice none 0 0)),.c (.val (.bool false))] ∧ H = []) ∨
     (¬ p.bad ∧ ∃ b:Bool,(b = true ↔ (p.segs.length ≤ 255 ∧ (p.more = true → p.parts ≠ []))) ∧ r = .t [.c (szV 0 (lenI p.segs)),.c (.val (.bool b))] ∧ H = szH (lenI p.segs)) := by
 refine callsA_of_ev c87_ ?_
 obtain ⟨S,hS⟩:∃ S,S = lenI p.segs := ⟨_,rfl⟩
 have hSl:S.length = p.segs.length := by rw [hS]; unfold lenI; rw [List.length_map]
 rw [← hS]
 conv => whnf
 refine Or.inr ⟨PLift (¬ p.bad),fun _ => ⟨[(1,.o (.c (.ptr 0 0))),(4,.o (.c (szV 1 S)))],sgH p v S⟩,?_,fun ⟨hnb⟩ => ?_⟩
 · rcases hv with ⟨rfl,hp⟩ | ⟨a,c,rfl,hc,hb⟩
   · have hS0:S = [] := by rw [hS]; unfold Pg.segs Pg.pts; rw [hp]; rfl
     subst hS0
     conv => whnf
     refine ⟨Unit,fun _ => ⟨sgE (.slice none 0 0) 0 0 [],sgH p (.slice none 0 0) []⟩,fun _ => 0,⟨(),[0],⟨rfl,⟨rfl,rfl,trivial⟩,rfl⟩,rfl,rfl,rfl,rfl,rfl,trivial⟩,fun _ => ?_⟩
     conv => whnf
     refine ⟨fun g => zF g,fun _ => ?_⟩
     conv => whnf
     exact ⟨⟨fun hbad => by
       obtain ⟨_,x,hx,_⟩ := hbad
       unfold Pg.pts at hx
       rw [hp] at hx
       cases hx⟩,[0],⟨rfl,⟨rfl,rfl,trivial⟩,rfl⟩,rfl,rfl,trivial⟩
   · conv => whnf
     refine ⟨{x:Nat × List Int // x.1 ≤ p.parts.length ∧ S = x.2 ++ lenI (lace p.more (p.pts.drop x.1)) ∧ (x.1 = p.parts.length → p.more = true → p.parts = [])},fun ⟨⟨i,out⟩,_⟩ => ⟨sgE (.slice (some a) p.parts.length c) p.parts.length i out,sgH p (.slice (some a) p.parts.length c) out⟩,fun x => p.parts.length - x.1.1,
       ⟨⟨(0,[]),Nat.zero_le _,hS,fun h _ => List.eq_nil_of_length_eq_zero h.symm⟩,[0],⟨rfl,⟨rfl,rfl,trivial⟩,rfl⟩,rfl,rfl,rfl,rfl,rfl,trivial⟩,fun ⟨⟨i,out⟩,hi,ho,hend⟩ => ?_⟩
     simp only at hi ho hend
     cases out with
     | nil =>
       conv => whnf
       refine ⟨fun g => ?_,fun g => ?_⟩
       · have g:i < p.parts.length := lt_t g
         obtain ⟨s,hsx⟩:∃ s,p.parts[i]? = some s := ⟨_,List.getElem?_eq_getElem g⟩
         have hsz := hz s (List.mem_of_getElem? hsx)
         have hXl:(bytesOf s).length = s.size := bytesOf_len s
         have hpt:p.pts[i]? = some (bytesOf s) := by unfold Pg.pts; rw [List.getElem?_map,hsx]; rfl
         have hS2:S = [] ++ (lenI (lc (bytesOf s)) ++ lenI (if p.pts.drop (i + 1) = [] ∧ p.more = true then [] else [lr (bytesOf s)]) ++ lenI (lace p.more (p.pts.drop (i + 1)))) := by
           rw [ho,show p.pts.drop i = bytesOf s :: p.pts.drop (i + 1) from List.drop_eq_getElem?_toList_append.trans (by rw [hpt]; rfl),lace,lenI_app,lenI_app]
         conv => whnf
         refine Or.inr ⟨{o':List Int // S = o' ++ lenI (lace p.more (p.pts.drop (i + 1))) ∧ ¬ (i + 1 = p.parts.length ∧ p.more = true)},fun ⟨o',_⟩ => ⟨sgE (.slice (some a) p.parts.length c) p.parts.length i o',sgH p (.slice (some a) p.parts.length c) o'⟩,?_,fun ⟨o',ho',hne'⟩ => ?_⟩
         · conv => whnf
           refine ⟨⟨Int.natCast_nonneg i,Int.ofNat_lt.2 g⟩,?_⟩
           conv => whnf
           refine ⟨.string s,?_⟩
           conv => whnf
           refine ⟨hb i s hsx,?_⟩
           conv => whnf
           refine ⟨rfl,?_⟩
           conv => whnf
           refine Or.inr ⟨Unit,fun _ => ⟨(5,.o (.c (.val (.int .i64 (i:Nat))))) :: (6,.o (.c (.val (.string s)))) :: (7,.o (.c (.val (.int .i64 ((s.size % 255:Nat):Int))))) :: sgE (.slice (some a) p.parts.length c) p.parts.length i ([] ++ List.replicate (s.size / 255) 255),sgH p (.slice (some a) p.parts.length c) ([] ++ List.replicate (s.size / 255) 255)⟩,?_,fun _ => ?_⟩
           · conv => whnf
             refine ⟨{x:Nat × List Int // x.1 ≤ s.size / 255 ∧ x.2 = [] ++ List.replicate x.1 255},fun ⟨⟨j,oj⟩,_⟩ => ⟨(5,.o (.c (.val (.int .i64 (i:Nat))))) :: (6,.o (.c (.val (.string s)))) :: (7,.o (.c (.val (.int .i64 ((s.size - 255 * j:Nat):Int))))) :: sgE (.slice (some a) p.parts.length c) p.parts.length i oj,sgH p (.slice (some a) p.parts.length c) oj⟩,fun x => s.size - 255 * x.1.1,
               ⟨⟨(0,[]),Nat.zero_le _,(List.append_nil _).symm⟩,[0],⟨rfl,⟨rfl,rfl,trivial⟩,rfl⟩,rfl,rfl,rfl,rfl,rfl,rfl,rfl,rfl,trivial⟩,fun ⟨⟨j,oj⟩,hj,hoj⟩ => ?_⟩
             simp only at hj hoj
             have hojl:oj.length ≤ S.length := by
               rw [hoj,hS2]
               simp only [List.length_append,lenI_lc,List.length_replicate,hXl]
               omega
             have hw2:IntKind.i64.wrap (((s.size - 255 * j:Nat):Int) - ((255:Nat):Int)) = if 255 ≤ s.size - 255 * j then ((s.size - 255 * (j + 1):Nat):Int) else ((s.size - 255 * j:Nat):Int) - 255 := by
               rw [IntKind.wrap_i64]
               split <;> omega
             cases oj with
             | nil =>
               conv => whnf
               refine ⟨fun g1 => ?_,fun g1 => ?_⟩
               · have g1:255 ≤ s.size - 255 * j := ge_t g1
                 rw [if_pos g1] at hw2
                 have hjn:j + 1 ≤ s.size / 255 := by omega
                 conv => whnf
                 refine ⟨by omega,Int,encI .u8,[],[255],fun _ => rfl,⟨rfl,rfl,rfl⟩,by simp only [List.length_cons,List.length_nil]; omega,by simp only [List.length_cons,List.length_nil]; omega,?_⟩
                 conv => whnf
                 exact ⟨⟨(j + 1,[255]),hjn,by rw [List.replicate_succ',← List.append_assoc,← hoj]; rfl⟩,⟨[0,2],⟨rfl,⟨rfl,rfl,rfl,rfl,trivial⟩,rfl⟩,rfl,rfl,eq_i64 hw2,rfl,rfl,rfl,rfl,rfl,trivial⟩,by show s.size - 255 * (j + 1) < s.size - 255 * j; omega⟩
               · have g1:s.size - 255 * j < 255 := ge_f g1
                 obtain rfl:j = s.size / 255 := by omega
                 conv => whnf
                 rw [← hoj]
                 exact ⟨(),[0],⟨rfl,⟨rfl,rfl,trivial⟩,rfl⟩,rfl,rfl,eq_i64 (by omega),rfl,rfl,rfl,rfl,rfl,trivial⟩
             | cons o1 or =>
               conv => whnf
               refine ⟨fun g1 => ?_,fun g1 => ?_⟩
               · have g1:255 ≤ s.size - 255 * j := ge_t g1
                 rw [if_pos g1] at hw2
                 have hjn:j + 1 ≤ s.size / 255 := by omega
                 conv => whnf
                 refine ⟨rfl,[255],⟨rfl,rfl,rfl⟩,by rw [List.length_append,List.length_singleton]; omega,by rw [List.length_append,List.length_singleton]; omega,?_⟩
                 conv => whnf
                 exact ⟨⟨(j + 1,o1 :: (or ++ [255])),hjn,by rw [List.replicate_succ',← List.append_assoc,← hoj]; rfl⟩,⟨[0,3],⟨rfl,⟨rfl,rfl,rfl,rfl,trivial⟩,rfl⟩,rfl,rfl,eq_i64 hw2,rfl,rfl,rfl,rfl,rfl,trivial⟩,by show s.size - 255 * (j + 1) < s.size - 255 * j; omega⟩
               · have g1:s.size - 255 * j < 255 := ge_f g1
                 obtain rfl:j = s.size / 255 := by omega
                 conv => whnf
                 rw [← hoj]
                 exact ⟨(),[0,1],⟨rfl,⟨rfl,rfl,rfl,rfl,trivial⟩,rfl⟩,rfl,rfl,eq_i64 (by omega),rfl,rfl,rfl,rfl,rfl,trivial⟩
           · obtain ⟨o2,ho2⟩:∃ o2:List Int,o2 = [] ++ List.replicate (s.size / 255) 255 := ⟨_,rfl⟩
             rw [← ho2]
             have hw3:IntKind.i64.wrap (((p.parts.length:Nat):Int) - ((1:Nat):Int)) = ((p.parts.length - 1:Nat):Int) := by rw [IntKind.wrap_i64]; omega
             have h8:IntKind.u8.wrap ((s.size % 255:Nat):Int) = ((s.size % 255:Nat):Int) := nwrap8 (by omega)
             have hlast:i + 1 = p.parts.length → p.more = true → S = o2 := by
               intro h1 h2
               rw [hS2,if_pos ⟨List.drop_of_length_le (by unfold Pg.pts; rw [List.length_map]; omega),h2⟩,List.drop_of_length_le (by unfold Pg.pts; rw [List.length_map]; omega),lenI_lc,hXl,ho2]
               show _ ++ (_ ++ [] ++ []) = _
               rw [List.append_nil,List.append_nil]
             have hgo:¬ (i + 1 = p.parts.length ∧ p.more = true) → S = (o2 ++ [((s.size % 255:Nat):Int)]) ++ lenI (lace p.more (p.pts.drop (i + 1))) := by
               intro h1
               have hne:¬ (p.pts.drop (i + 1) = [] ∧ p.more = true) := by
                 rintro ⟨h2,h3⟩
                 refine h1 ⟨?_,h3⟩
                 have := congrArg List.length h2
                 rw [List.length_drop,List.length_nil] at this
                 unfold Pg.pts at this
                 rw [List.length_map] at this
                 omega
               rw [hS2,if_neg hne,lenI_lc,lenI_lr,hXl,ho2]
               simp only [List.append_assoc]
             have hptl:i + 1 = p.parts.length → p.pts.getLast? = some (bytesOf s) := by
               intro h1
               rw [List.getLast?_eq_getElem?]
               unfold Pg.pts at hpt ⊢
               rw [List.length_map,show p.parts.length - 1 = i by omega]
               exact hpt
             have ho2l:o2.length ≤ S.length := by
               rw [ho2,hS2]
               simp only [List.length_append,lenI_lc,List.length_replicate,hXl]
               omega
             cases o2 with
             | nil =>
               conv => whnf
               refine Or.inl ?_
               conv => whnf
               rw [hw3]
               refine ⟨fun g1 => ?_,fun g1 => ?_⟩
               · have g1:i + 1 = p.parts.length := by
                   have := beq_t g1
                   omega
                 conv => whnf
                 refine ⟨fun g2 => ?_,fun g2 => ?_⟩
                 · have g2:p.more = true := g2
                   conv => whnf
                   refine Or.inl ?_
                   conv => whnf
                   refine ⟨fun g3 => ?_,fun g3 => ?_⟩
                   · have g3:s.size % 255 ≠ 0 := bne_t (b := 0) g3
                     conv => whnf
                     exact Or.inr ⟨[],.t [.c (.val (.slice none 0 0)),.c (.val (.bool false))],[],⟨rfl,trivial,rfl⟩,rfl,.inl ⟨⟨g2,_,hptl g1,fun ⟨n,hn⟩ => by rw [hXl] at hn; omega⟩,rfl,rfl⟩⟩
                   · have g3:s.size % 255 = 0 := bne_f (b := 0) g3
                     conv => whnf
                     refine ⟨fun g4 => ?_,fun g4 => ?_⟩
                     · have g4:s.size = 0 := by rw [strb_t g4]; rfl
                       conv => whnf
                       exact Or.inr ⟨[],.t [.c (.val (.slice none 0 0)),.c (.val (.bool false))],[],⟨rfl,trivial,rfl⟩,rfl,.inl ⟨⟨g2,_,hptl g1,fun ⟨n,hn⟩ => by rw [hXl] at hn; omega⟩,rfl,rfl⟩⟩
                     · have g4:s.size ≠ 0 := fun c => strb_f g4 (ByteArray.ext (Array.eq_empty_of_size_eq_zero c))
                       conv => whnf
                       rw [hlast g1 g2]
                       refine ⟨⟨?_⟩,[0],⟨rfl,⟨rfl,rfl,trivial⟩,rfl⟩,rfl,rfl,trivial⟩
                       rintro ⟨_,x,hx,hx2⟩
                       rw [hptl g1] at hx
                       cases hx
                       exact hx2 ⟨s.size / 255 - 1,by rw [hXl]; omega⟩
                 · have g2:p.more = false := g2
                   have h1:¬ (i + 1 = p.parts.length ∧ p.more = true) := fun c => by rw [g2] at c; exact Bool.noConfusion c.2
                   conv => whnf
                   rw [h8]
                   conv => whnf
                   refine ⟨by omega,Int,encI .u8,[],[((s.size % 255:Nat):Int)],fun _ => rfl,⟨rfl,rfl,rfl⟩,by simp only [List.length_cons,List.length_nil]; omega,by simp only [List.length_cons,List.length_nil]; omega,?_⟩
                   conv => whnf
                   exact ⟨⟨[((s.size % 255:Nat):Int)],hgo h1,h1⟩,[0,2],⟨rfl,⟨rfl,rfl,rfl,rfl,trivial⟩,rfl⟩,rfl,rfl,rfl,rfl,rfl,trivial⟩
               · have g1:i + 1 ≠ p.parts.length := by
                   have := beq_f g1
                   omega
                 have h1:¬ (i + 1 = p.parts.length ∧ p.more = true) := fun c => g1 c.1
                 conv => whnf
                 rw [h8]
                 conv => whnf
                 refine ⟨by omega,Int,encI .u8,[],[((s.size % 255:Nat):Int)],fun _ => rfl,⟨rfl,rfl,rfl⟩,by simp only [List.length_cons,List.length_nil]; omega,by simp only [List.length_cons,List.length_nil]; omega,?_⟩
                 conv => whnf
                 exact ⟨⟨[((s.size % 255:Nat):Int)],hgo h1,h1⟩,[0,2],⟨rfl,⟨rfl,rfl,rfl,rfl,trivial⟩,rfl⟩,rfl,rfl,rfl,rfl,rfl,trivial⟩
             | cons o1 or =>
               conv => whnf
               refine Or.inl ?_
               conv => whnf
               rw [hw3]
               refine ⟨fun g1 => ?_,fun g1 => ?_⟩
               · have g1:i + 1 = p.parts.length := by
                   have := beq_t g1
                   omega
                 conv => whnf
                 refine ⟨fun g2 => ?_,fun g2 => ?_⟩
                 · have g2:p.more = true := g2
                   conv => whnf
                   refine Or.inl ?_
                   conv => whnf
                   refine ⟨fun g3 => ?_,fun g3 => ?_⟩
                   · have g3:s.size % 255 ≠ 0 := bne_t (b := 0) g3
                     conv => whnf
                     exact Or.inr ⟨[],.t [.c (.val (.slice none 0 0)),.c (.val (.bool false))],[],⟨rfl,trivial,rfl⟩,rfl,.inl ⟨⟨g2,_,hptl g1,fun ⟨n,hn⟩ => by rw [hXl] at hn; omega⟩,rfl,rfl⟩⟩
                   · have g3:s.size % 255 = 0 := bne_f (b := 0) g3
                     conv => whnf
                     refine ⟨fun g4 => ?_,fun g4 => ?_⟩
                     · have g4:s.size = 0 := by rw [strb_t g4]; rfl
                       conv => whnf
                       exact Or.inr ⟨[],.t [.c (.val (.slice none 0 0)),.c (.val (.bool false))],[],⟨rfl,trivial,rfl⟩,rfl,.inl ⟨⟨g2,_,hptl g1,fun ⟨n,hn⟩ => by rw [hXl] at hn; omega⟩,rfl,rfl⟩⟩
                     · have g4:s.size ≠ 0 := fun c => strb_f g4 (ByteArray.ext (Array.eq_empty_of_size_eq_zero c))
                       conv => whnf
                       rw [hlast g1 g2]
                       refine ⟨⟨?_⟩,[0,1],⟨rfl,⟨rfl,rfl,rfl,rfl,trivial⟩,rfl⟩,rfl,rfl,trivial⟩
                       rintro ⟨_,x,hx,hx2⟩
                       rw [hptl g1] at hx
                       cases hx
                       exact hx2 ⟨s.size / 255 - 1,by rw [hXl]; omega⟩
                 · have g2:p.more = false := g2
                   have h1:¬ (i + 1 = p.parts.length ∧ p.more = true) := fun c => by rw [g2] at c; exact Bool.noConfusion c.2
                   conv => whnf
                   rw [h8]
                   conv => whnf
                   refine ⟨rfl,[((s.size % 255:Nat):Int)],⟨rfl,rfl,rfl⟩,by rw [List.length_append,List.length_singleton]; omega,by rw [List.length_append,List.length_singleton]; omega,?_⟩
                   conv => whnf
                   exact ⟨⟨o1 :: (or ++ [((s.size % 255:Nat):Int)]),hgo h1,h1⟩,[0,3],⟨rfl,⟨rfl,rfl,rfl,rfl,trivial⟩,rfl⟩,rfl,rfl,rfl,rfl,rfl,trivial⟩
               · have g1:i + 1 ≠ p.parts.length := by
                   have := beq_f g1
                   omega
                 have h1:¬ (i + 1 = p.parts.length ∧ p.more = true) := fun c => g1 c.1
                 conv => whnf
                 rw [h8]
                 conv => whnf
                 refine ⟨rfl,[((s.size % 255:Nat):Int)],⟨rfl,rfl,rfl⟩,by rw [List.length_append,List.length_singleton]; omega,by rw [List.length_append,List.length_singleton]; omega,?_⟩
                 conv => whnf
                 exact ⟨⟨o1 :: (or ++ [((s.size % 255:Nat):Int)]),hgo h1,h1⟩,[0,3],⟨rfl,⟨rfl,rfl,rfl,rfl,trivial⟩,rfl⟩,rfl,rfl,rfl,rfl,rfl,trivial⟩

         · cases o' with
           | nil =>
             conv => whnf
             exact ⟨⟨(i + 1,[]),g,ho',fun a b => absurd ⟨a,b⟩ hne'⟩,⟨[0],⟨rfl,⟨rfl,rfl,trivial⟩,rfl⟩,rfl,rfl,rfl,rfl,eq_i64 (by rw [nadd,nwrapi (by omega)]),trivial⟩,by show p.parts.length - (i + 1) < p.parts.length - i; omega⟩
           | cons o1 or =>
             conv => whnf
             exact ⟨⟨(i + 1,o1 :: or),g,ho',fun a b => absurd ⟨a,b⟩ hne'⟩,⟨[0,1],⟨rfl,⟨rfl,rfl,rfl,rfl,trivial⟩,rfl⟩,rfl,rfl,rfl,rfl,eq_i64 (by rw [nadd,nwrapi (by omega)]),trivial⟩,by show p.parts.length - (i + 1) < p.parts.length - i; omega⟩
       · have g:p.parts.length ≤ i := lt_f g
         have hdn:p.pts.drop i = [] := List.drop_of_length_le (by unfold Pg.pts; rw [List.length_map]; exact g)
         rw [hdn] at ho
         have ho:S = [] := by rw [ho]; exact List.append_nil _
         conv => whnf
         rw [ho]
         refine ⟨⟨?_⟩,[0],⟨rfl,⟨rfl,rfl,trivial⟩,rfl⟩,rfl,rfl,trivial⟩
         rintro ⟨hm,x,hx,hx2⟩
         have hnil := hend (by omega) hm
         unfold Pg.pts at hx
         rw [hnil] at hx
         cases hx
     | cons o0 ol =>
       conv => whnf
       refine ⟨fun g => ?_,fun g => ?_⟩
       · have g:i < p.parts.length := lt_t g
         obtain ⟨s,hsx⟩:∃ s,p.parts[i]? = some s := ⟨_,List.getElem?_eq_getElem g⟩
         have hsz := hz s (List.mem_of_getElem? hsx)
         have hXl:(bytesOf s).length = s.size := bytesOf_len s
         have hpt:p.pts[i]? = some (bytesOf s) := by unfold Pg.pts; rw [List.getElem?_map,hsx]; rfl
         have hS2:S = (o0 :: ol) ++ (lenI (lc (bytesOf s)) ++ lenI (if p.pts.drop (i + 1) = [] ∧ p.more = true then [] else [lr (bytesOf s)]) ++ lenI (lace p.more (p.pts.drop (i + 1)))) := by
           rw [ho,show p.pts.drop i = bytesOf s :: p.pts.drop (i + 1) from List.drop_eq_getElem?_toList_append.trans (by rw [hpt]; rfl),lace,lenI_app,lenI_app]
         conv => whnf
         refine Or.inr ⟨{o':List Int // S = o' ++ lenI (lace p.more (p.pts.drop (i + 1))) ∧ ¬ (i + 1 = p.parts.length ∧ p.more = true)},fun ⟨o',_⟩ => ⟨sgE (.slice (some a) p.parts.length c) p.parts.length i o',sgH p (.slice (some a) p.parts.length c) o'⟩,?_,fun ⟨o',ho',hne'⟩ => ?_⟩
         · conv => whnf
           refine ⟨⟨Int.natCast_nonneg i,Int.ofNat_lt.2 g⟩,?_⟩
           conv => whnf
           refine ⟨.string s,?_⟩
           conv => whnf
           refine ⟨hb i s hsx,?_⟩
           conv => whnf
           refine ⟨rfl,?_⟩
           conv => whnf
           refine Or.inr ⟨Unit,fun _ => ⟨(5,.o (.c (.val (.int .i64 (i:Nat))))) :: (6,.o (.c (.val (.string s)))) :: (7,.o (.c (.val (.int .i64 ((s.size % 255:Nat):Int))))) :: sgE (.slice (some a) p.parts.length c) p.parts.length i ((o0 :: ol) ++ List.replicate (s.size / 255) 255),sgH p (.slice (some a) p.parts.length c) ((o0 :: ol) ++ List.replicate (s.size / 255) 255)⟩,?_,fun _ => ?_⟩
           · conv => whnf
             refine ⟨{x:Nat × List Int // x.1 ≤ s.size / 255 ∧ x.2 = (o0 :: ol) ++ List.replicate x.1 255},fun ⟨⟨j,oj⟩,_⟩ => ⟨(5,.o (.c (.val (.int .i64 (i:Nat))))) :: (6,.o (.c (.val (.string s)))) :: (7,.o (.c (.val (.int .i64 ((s.size - 255 * j:Nat):Int))))) :: sgE (.slice (some a) p.parts.length c) p.parts.length i oj,sgH p (.slice (some a) p.parts.length c) oj⟩,fun x => s.size - 255 * x.1.1,
               ⟨⟨(0,(o0 :: ol)),Nat.zero_le _,(List.append_nil _).symm⟩,[0,1],⟨rfl,⟨rfl,rfl,rfl,rfl,trivial⟩,rfl⟩,rfl,rfl,rfl,rfl,rfl,rfl,rfl,rfl,trivial⟩,fun ⟨⟨j,oj⟩,hj,hoj⟩ => ?_⟩
             simp only at hj hoj
             have hojl:oj.length ≤ S.length := by
               rw [hoj,hS2]
               simp only [List.length_append,lenI_lc,List.length_replicate,hXl]
               omega
             have hw2:IntKind.i64.wrap (((s.size - 255 * j:Nat):Int) - ((255:Nat):Int)) = if 255 ≤ s.size - 255 * j then ((s.size - 255 * (j + 1):Nat):Int) else ((s.size - 255 * j:Nat):Int) - 255 := by
               rw [IntKind.wrap_i64]
               split <;> omega
             cases oj with
             | nil =>
               conv => whnf
               refine ⟨fun g1 => ?_,fun g1 => ?_⟩
               · have g1:255 ≤ s.size - 255 * j := ge_t g1
                 rw [if_pos g1] at hw2
                 have hjn:j + 1 ≤ s.size / 255 := by omega
                 conv => whnf
                 refine ⟨by omega,Int,encI .u8,[],[255],fun _ => rfl,⟨rfl,rfl,rfl⟩,by simp only [List.length_cons,List.length_nil]; omega,by simp only [List.length_cons,List.length_nil]; omega,?_⟩
                 conv => whnf
                 exact ⟨⟨(j + 1,[255]),hjn,by rw [List.replicate_succ',← List.append_assoc,← hoj]; rfl⟩,⟨[0,2],⟨rfl,⟨rfl,rfl,rfl,rfl,trivial⟩,rfl⟩,rfl,rfl,eq_i64 hw2,rfl,rfl,rfl,rfl,rfl,trivial⟩,by show s.size - 255 * (j + 1) < s.size - 255 * j; omega⟩
               · have g1:s.size - 255 * j < 255 := ge_f g1
                 obtain rfl:j = s.size / 255 := by omega
                 conv => whnf
                 rw [← hoj]
                 exact ⟨(),[0],⟨rfl,⟨rfl,rfl,trivial⟩,rfl⟩,rfl,rfl,eq_i64 (by omega),rfl,rfl,rfl,rfl,rfl,trivial⟩
             | cons o1 or =>
               conv => whnf
               refine ⟨fun g1 => ?_,fun g1 => ?_⟩
               · have g1:255 ≤ s.size - 255 * j := ge_t g1
                 rw [if_pos g1] at hw2
                 have hjn:j + 1 ≤ s.size / 255 := by omega
                 conv => whnf
                 refine ⟨rfl,[255],⟨rfl,rfl,rfl⟩,by rw [List.length_append,List.length_singleton]; omega,by rw [List.length_append,List.length_singleton]; omega,?_⟩
                 conv => whnf
                 exact ⟨⟨(j + 1,o1 :: (or ++ [255])),hjn,by rw [List.replicate_succ',← List.append_assoc,← hoj]; rfl⟩,⟨[0,3],⟨rfl,⟨rfl,rfl,rfl,rfl,trivial⟩,rfl⟩,rfl,rfl,eq_i64 hw2,rfl,rfl,rfl,rfl,rfl,trivial⟩,by show s.size - 255 * (j + 1) < s.size - 255 * j; omega⟩
               · have g1:s.size - 255 * j < 255 := ge_f g1
                 obtain rfl:j = s.size / 255 := by omega
                 conv => whnf
                 rw [← hoj]
                 exact ⟨(),[0,1],⟨rfl,⟨rfl,rfl,rfl,rfl,trivial⟩,rfl⟩,rfl,rfl,eq_i64 (by omega),rfl,rfl,rfl,rfl,rfl,trivial⟩
           · obtain ⟨o2,ho2⟩:∃ o2:List Int,o2 = (o0 :: ol) ++ List.replicate (s.size / 255) 255 := ⟨_,rfl⟩
             rw [← ho2]
             have hw3:IntKind.i64.wrap (((p.parts.length:Nat):Int) - ((1:Nat):Int)) = ((p.parts.length - 1:Nat):Int) := by rw [IntKind.wrap_i64]; omega
             have h8:IntKind.u8.wrap ((s.size % 255:Nat):Int) = ((s.size % 255:Nat):Int) := nwrap8 (by omega)
             have hlast:i + 1 = p.parts.length → p.more = true → S = o2 := by
               intro h1 h2
               rw [hS2,if_pos ⟨List.drop_of_length_le (by unfold Pg.pts; rw [List.length_map]; omega),h2⟩,List.drop_of_length_le (by unfold Pg.pts; rw [List.length_map]; omega),lenI_lc,hXl,ho2]
               show _ ++ (_ ++ [] ++ []) = _
               rw [List.append_nil,List.append_nil]
             have hgo:¬ (i + 1 = p.parts.length ∧ p.more = true) → S = (o2 ++ [((s.size % 255:Nat):Int)]) ++ lenI (lace p.more (p.pts.drop (i + 1))) := by
               intro h1
               have hne:¬ (p.pts.drop (i + 1) = [] ∧ p.more = true) := by
                 rintro ⟨h2,h3⟩
                 refine h1 ⟨?_,h3⟩
                 have := congrArg List.length h2
                 rw [List.length_drop,List.length_nil] at this
                 unfold Pg.pts at this
                 rw [List.length_map] at this
                 omega
               rw [hS2,if_neg hne,lenI_lc,lenI_lr,hXl,ho2]
               simp only [List.append_assoc]
             have hptl:i + 1 = p.parts.length → p.pts.getLast? = some (bytesOf s) := by
               intro h1
               rw [List.getLast?_eq_getElem?]
               unfold Pg.pts at hpt ⊢
               rw [List.length_map,show p.parts.length - 1 = i by omega]
               exact hpt
             have ho2l:o2.length ≤ S.length := by
               rw [ho2,hS2]
               simp only [List.length_append,lenI_lc,List.length_replicate,hXl]
               omega
             cases o2 with
             | nil =>
               conv => whnf
               refine Or.inl ?_
               conv => whnf
               rw [hw3]
               refine ⟨fun g1 => ?_,fun g1 => ?_⟩
               · have g1:i + 1 = p.parts.length := by
                   have := beq_t g1
                   omega
                 conv => whnf
                 refine ⟨fun g2 => ?_,fun g2 => ?_⟩
                 · have g2:p.more = true := g2
                   conv => whnf
                   refine Or.inl ?_
                   conv => whnf
                   refine ⟨fun g3 => ?_,fun g3 => ?_⟩
                   · have g3:s.size % 255 ≠ 0 := bne_t (b := 0) g3
                     conv => whnf
                     exact Or.inr ⟨[],.t [.c (.val (.slice none 0 0)),.c (.val (.bool false))],[],⟨rfl,trivial,rfl⟩,rfl,.inl ⟨⟨g2,_,hptl g1,fun ⟨n,hn⟩ => by rw [hXl] at hn; omega⟩,rfl,rfl⟩⟩
                   · have g3:s.size % 255 = 0 := bne_f (b := 0) g3
                     conv => whnf
                     refine ⟨fun g4 => ?_,fun g4 => ?_⟩
                     · have g4:s.size = 0 := by rw [strb_t g4]; rfl
                       conv => whnf
                       exact Or.inr ⟨[],.t [.c (.val (.slice none 0 0)),.c (.val (.bool false))],[],⟨rfl,trivial,rfl⟩,rfl,.inl ⟨⟨g2,_,hptl g1,fun ⟨n,hn⟩ => by rw [hXl] at hn; omega⟩,rfl,rfl⟩⟩
                     · have g4:s.size ≠ 0 := fun c => strb_f g4 (ByteArray.ext (Array.eq_empty_of_size_eq_zero c))
                       conv => whnf
                       rw [hlast g1 g2]
                       refine ⟨⟨?_⟩,[0],⟨rfl,⟨rfl,rfl,trivial⟩,rfl⟩,rfl,rfl,trivial⟩
                       rintro ⟨_,x,hx,hx2⟩
                       rw [hptl g1] at hx
                       cases hx
                       exact hx2 ⟨s.size / 255 - 1,by rw [hXl]; omega⟩
                 · have g2:p.more = false := g2
                   have h1:¬ (i + 1 = p.parts.length ∧ p.more = true) := fun c => by rw [g2] at c; exact Bool.noConfusion c.2
                   conv => whnf
                   rw [h8]
                   conv => whnf
                   refine ⟨by omega,Int,encI .u8,[],[((s.size % 255:Nat):Int)],fun _ => rfl,⟨rfl,rfl,rfl⟩,by simp only [List.length_cons,List.length_nil]; omega,by simp only [List.length_cons,List.length_nil]; omega,?_⟩
                   conv => whnf
                   exact ⟨⟨[((s.size % 255:Nat):Int)],hgo h1,h1⟩,[0,2],⟨rfl,⟨rfl,rfl,rfl,rfl,trivial⟩,rfl⟩,rfl,rfl,rfl,rfl,rfl,trivial⟩
               · have g1:i + 1 ≠ p.parts.length := by
                   have := beq_f g1
                   omega
                 have h1:¬ (i + 1 = p.parts.length ∧ p.more = true) := fun c => g1 c.1
                 conv => whnf
                 rw [h8]
                 conv => whnf
                 refine ⟨by omega,Int,encI .u8,[],[((s.size % 255:Nat):Int)],fun _ => rfl,⟨rfl,rfl,rfl⟩,by simp only [List.length_cons,List.length_nil]; omega,by simp only [List.length_cons,List.length_nil]; omega,?_⟩
                 conv => whnf
                 exact ⟨⟨[((s.size % 255:Nat):Int)],hgo h1,h1⟩,[0,2],⟨rfl,⟨rfl,rfl,rfl,rfl,trivial⟩,rfl⟩,rfl,rfl,rfl,rfl,rfl,trivial⟩
             | cons o1 or =>
               conv => whnf
               refine Or.inl ?_
               conv => whnf
               rw [hw3]
               refine ⟨fun g1 => ?_,fun g1 => ?_⟩
               · have g1:i + 1 = p.parts.length := by
                   have := beq_t g1
                   omega
                 conv => whnf
                 refine ⟨fun g2 => ?_,fun g2 => ?_⟩
                 · have g2:p.more = true := g2
                   conv => whnf
                   refine Or.inl ?_
                   conv => whnf
                   refine ⟨fun g3 => ?_,fun g3 => ?_⟩
                   · have g3:s.size % 255 ≠ 0 := bne_t (b := 0) g3
                     conv => whnf
                     exact Or.inr ⟨[],.t [.c (.val (.slice none 0 0)),.c (.val (.bool false))],[],⟨rfl,trivial,rfl⟩,rfl,.inl ⟨⟨g2,_,hptl g1,fun ⟨n,hn⟩ => by rw [hXl] at hn; omega⟩,rfl,rfl⟩⟩
                   · have g3:s.size % 255 = 0 := bne_f (b := 0) g3
                     conv => whnf
                     refine ⟨fun g4 => ?_,fun g4 => ?_⟩
                     · have g4:s.size = 0 := by rw [strb_t g4]; rfl
                       conv => whnf
                       exact Or.inr ⟨[],.t [.c (.val (.slice none 0 0)),.c (.val (.bool false))],[],⟨rfl,trivial,rfl⟩,rfl,.inl ⟨⟨g2,_,hptl g1,fun ⟨n,hn⟩ => by rw [hXl] at hn; omega⟩,rfl,rfl⟩⟩
                     · have g4:s.size ≠ 0 := fun c => strb_f g4 (ByteArray.ext (Array.eq_empty_of_size_eq_zero c))
                       conv => whnf
                       rw [hlast g1 g2]
                       refine ⟨⟨?_⟩,[0,1],⟨rfl,⟨rfl,rfl,rfl,rfl,trivial⟩,rfl⟩,rfl,rfl,trivial⟩
                       rintro ⟨_,x,hx,hx2⟩
                       rw [hptl g1] at hx
                       cases hx
                       exact hx2 ⟨s.size / 255 - 1,by rw [hXl]; omega⟩
                 · have g2:p.more = false := g2
                   have h1:¬ (i + 1 = p.parts.length ∧ p.more = true) := fun c => by rw [g2] at c; exact Bool.noConfusion c.2
                   conv => whnf
                   rw [h8]
                   conv => whnf
                   refine ⟨rfl,[((s.size % 255:Nat):Int)],⟨rfl,rfl,rfl⟩,by rw [List.length_append,List.length_singleton]; omega,by rw [List.length_append,List.length_singleton]; omega,?_⟩
                   conv => whnf
                   exact ⟨⟨o1 :: (or ++ [((s.size % 255:Nat):Int)]),hgo h1,h1⟩,[0,3],⟨rfl,⟨rfl,rfl,rfl,rfl,trivial⟩,rfl⟩,rfl,rfl,rfl,rfl,rfl,trivial⟩
               · have g1:i + 1 ≠ p.parts.length := by
                   have := beq_f g1
                   omega
                 have h1:¬ (i + 1 = p.parts.length ∧ p.more = true) := fun c => g1 c.1
                 conv => whnf
                 rw [h8]
                 conv => whnf
                 refine ⟨rfl,[((s.size % 255:Nat):Int)],⟨rfl,rfl,rfl⟩,by rw [List.length_append,List.length_singleton]; omega,by rw [List.length_append,List.length_singleton]; omega,?_⟩
                 conv => whnf
                 exact ⟨⟨o1 :: (or ++ [((s.size % 255:Nat):Int)]),hgo h1,h1⟩,[0,3],⟨rfl,⟨rfl,rfl,rfl,rfl,trivial⟩,rfl⟩,rfl,rfl,rfl,rfl,rfl,trivial⟩

         · cases o' with
           | nil =>
             conv => whnf
             exact ⟨⟨(i + 1,[]),g,ho',fun a b => absurd ⟨a,b⟩ hne'⟩,⟨[0],⟨rfl,⟨rfl,rfl,trivial⟩,rfl⟩,rfl,rfl,rfl,rfl,eq_i64 (by rw [nadd,nwrapi (by omega)]),trivial⟩,by show p.parts.length - (i + 1) < p.parts.length - i; omega⟩
           | cons o1 or =>
             conv => whnf
             exact ⟨⟨(i + 1,o1 :: or),g,ho',fun a b => absurd ⟨a,b⟩ hne'⟩,⟨[0,1],⟨rfl,⟨rfl,rfl,rfl,rfl,trivial⟩,rfl⟩,rfl,rfl,rfl,rfl,eq_i64 (by rw [nadd,nwrapi (by omega)]),trivial⟩,by show p.parts.length - (i + 1) < p.parts.length - i; omega⟩
       · have g:p.parts.length ≤ i := lt_f g
         have hdn:p.pts.drop i = [] := List.drop_of_length_le (by unfold Pg.pts; rw [List.length_map]; exact g)
         rw [hdn] at ho
         have ho:S = (o0 :: ol) := by rw [ho]; exact List.append_nil _
         conv => whnf
         rw [ho]
         refine ⟨⟨?_⟩,[0,1],⟨rfl,⟨rfl,rfl,rfl,rfl,trivial⟩,rfl⟩,rfl,rfl,trivial⟩
         rintro ⟨hm,x,hx,hx2⟩
         have hnil := hend (by omega) hm
         unfold Pg.pts at hx
         rw [hnil] at hx
         cases hx
 · rcases hv with ⟨rfl,hp⟩ | ⟨a,c,rfl,hc,hb⟩
   · cases S with
     | nil =>
       conv => whnf
       refine ⟨fun g => ?_,fun g => ?_⟩
       · have g:0 ≤ 255 := le_t (a := 0) g
         have hle:p.segs.length ≤ 255 := by rw [← hSl]; exact g
         conv => whnf
         refine ⟨fun g2 => ?_,fun g2 => ?_⟩
         · have hm:p.more = false := by simpa using g2
           conv => whnf
           exact Or.inr ⟨[],.t [.c (szV 0 []),.c (.val (.bool true))],szH [],⟨rfl,trivial,rfl⟩,rfl,.inr ⟨hnb,true,⟨fun _ => ⟨hle,fun h => by rw [hm] at h; exact Bool.noConfusion h⟩,fun _ => rfl⟩,rfl,rfl⟩⟩
         · have hm:p.more = true := by simpa using g2
           conv => whnf
           have hb':(decide (((0:Nat):Int) > ((0:Nat):Int))) = true ↔ (p.segs.length ≤ 255 ∧ (p.more = true → p.parts ≠ [])) := by
             constructor
             · intro h
               exact absurd h (by decide)
             · intro h
               exact absurd hp (h.2 hm)
           exact Or.inr ⟨[],.t [.c (szV 0 []),.c (.val (.bool (decide (((0:Nat):Int) > ((0:Nat):Int)))))],szH [],⟨rfl,trivial,rfl⟩,rfl,.inr ⟨hnb,(decide (((0:Nat):Int) > ((0:Nat):Int))),hb',rfl,rfl⟩⟩
       · have g:¬ 0 ≤ 255 := Nat.not_le.2 (le_f (a := 0) g)
         conv => whnf
         exact Or.inr ⟨[],.t [.c (szV 0 []),.c (.val (.bool false))],szH [],⟨rfl,trivial,rfl⟩,rfl,.inr ⟨hnb,false,⟨fun h => Bool.noConfusion h,fun h => absurd (by rw [← hSl] at h; exact h.1) g⟩,rfl,rfl⟩⟩
     | cons s0 sr =>
       conv => whnf
       refine ⟨fun g => ?_,fun g => ?_⟩
       · have g:(s0 :: sr).length ≤ 255 := le_t (a := (s0 :: sr).length) g
         have hle:p.segs.length ≤ 255 := by rw [← hSl]; exact g
         conv => whnf
         refine ⟨fun g2 => ?_,fun g2 => ?_⟩
         · have hm:p.more = false := by simpa using g2
           conv => whnf
           exact Or.inr ⟨[1],.t [.c (szV 0 (s0 :: sr)),.c (.val (.bool true))],szH (s0 :: sr),⟨rfl,⟨rfl,rfl,trivial⟩,rfl⟩,rfl,.inr ⟨hnb,true,⟨fun _ => ⟨hle,fun h => by rw [hm] at h; exact Bool.noConfusion h⟩,fun _ => rfl⟩,rfl,rfl⟩⟩
         · have hm:p.more = true := by simpa using g2
           conv => whnf
           have hb':(decide (((0:Nat):Int) > ((0:Nat):Int))) = true ↔ (p.segs.length ≤ 255 ∧ (p.more = true → p.parts ≠ [])) := by
             constructor
             · intro h
               exact absurd h (by decide)
             · intro h
               exact absurd hp (h.2 hm)
           exact Or.inr ⟨[1],.t [.c (szV 0 (s0 :: sr)),.c (.val (.bool (decide (((0:Nat):Int) > ((0:Nat):Int)))))],szH (s0 :: sr),⟨rfl,⟨rfl,rfl,trivial⟩,rfl⟩,rfl,.inr ⟨hnb,(decide (((0:Nat):Int) > ((0:Nat):Int))),hb',rfl,rfl⟩⟩
       · have g:¬ (s0 :: sr).length ≤ 255 := Nat.not_le.2 (le_f (a := (s0 :: sr).length) g)
         conv => whnf
         exact Or.inr ⟨[1],.t [.c (szV 0 (s0 :: sr)),.c (.val (.bool false))],szH (s0 :: sr),⟨rfl,⟨rfl,rfl,trivial⟩,rfl⟩,rfl,.inr ⟨hnb,false,⟨fun h => Bool.noConfusion h,fun h => absurd (by rw [← hSl] at h; exact h.1) g⟩,rfl,rfl⟩⟩
   · cases S with
     | nil =>
       conv => whnf
       refine ⟨fun g => ?_,fun g => ?_⟩
       · have g:0 ≤ 255 := le_t (a := 0) g
         have hle:p.segs.length ≤ 255 := by rw [← hSl]; exact g
         conv => whnf
         refine ⟨fun g2 => ?_,fun g2 => ?_⟩
         · have hm:p.more = false := by simpa using g2
           conv => whnf
           exact Or.inr ⟨[],.t [.c (szV 0 []),.c (.val (.bool true))],szH [],⟨rfl,trivial,rfl⟩,rfl,.inr ⟨hnb,true,⟨fun _ => ⟨hle,fun h => by rw [hm] at h; exact Bool.noConfusion h⟩,fun _ => rfl⟩,rfl,rfl⟩⟩
         · have hm:p.more = true := by simpa using g2
           conv => whnf
           have hb':(decide (((p.parts.length:Nat):Int) > ((0:Nat):Int))) = true ↔ (p.segs.length ≤ 255 ∧ (p.more = true → p.parts ≠ [])) := by
             constructor
             · intro h
               have := of_decide_eq_true h
               exact ⟨hle,fun _ hn => by rw [hn] at this; exact absurd this (by decide)⟩
             · intro h
               have := List.length_pos_iff.2 (h.2 hm)
               exact decide_eq_true (by omega)
           exact Or.inr ⟨[],.t [.c (szV 0 []),.c (.val (.bool (decide (((p.parts.length:Nat):Int) > ((0:Nat):Int)))))],szH [],⟨rfl,trivial,rfl⟩,rfl,.inr ⟨hnb,(decide (((p.parts.length:Nat):Int) > ((0:Nat):Int))),hb',rfl,rfl⟩⟩
       · have g:¬ 0 ≤ 255 := Nat.not_le.2 (le_f (a := 0) g)
         conv => whnf
         exact Or.inr ⟨[],.t [.c (szV 0 []),.c (.val (.bool false))],szH [],⟨rfl,trivial,rfl⟩,rfl,.inr ⟨hnb,false,⟨fun h => Bool.noConfusion h,fun h => absurd (by rw [← hSl] at h; exact h.1) g⟩,rfl,rfl⟩⟩
     | cons s0 sr =>
       conv => whnf
       refine ⟨fun g => ?_,fun g => ?_⟩
       · have g:(s0 :: sr).length ≤ 255 := le_t (a := (s0 :: sr).length) g
         have hle:p.segs.length ≤ 255 := by rw [← hSl]; exact g
         conv => whnf
         refine ⟨fun g2 => ?_,fun g2 => ?_⟩
         · have hm:p.more = false := by simpa using g2
           conv => whnf
           exact Or.inr ⟨[1],.t [.c (szV 0 (s0 :: sr)),.c (.val (.bool true))],szH (s0 :: sr),⟨rfl,⟨rfl,rfl,trivial⟩,rfl⟩,rfl,.inr ⟨hnb,true,⟨fun _ => ⟨hle,fun h => by rw [hm] at h; exact Bool.noConfusion h⟩,fun _ => rfl⟩,rfl,rfl⟩⟩
         · have hm:p.more = true := by simpa using g2
           conv => whnf
           have hb':(decide (((p.parts.length:Nat):Int) > ((0:Nat):Int))) = true ↔ (p.segs.length ≤ 255 ∧ (p.more = true → p.parts ≠ [])) := by
             constructor
             · intro h
               have := of_decide_eq_true h
               exact ⟨hle,fun _ hn => by rw [hn] at this; exact absurd this (by decide)⟩
             · intro h
               have := List.length_pos_iff.2 (h.2 hm)
               exact decide_eq_true (by omega)
           exact Or.inr ⟨[1],.t [.c (szV 0 (s0 :: sr)),.c (.val (.bool (decide (((p.parts.length:Nat):Int) > ((0:Nat):Int)))))],szH (s0 :: sr),⟨rfl,⟨rfl,rfl,trivial⟩,rfl⟩,rfl,.inr ⟨hnb,(decide (((p.parts.length:Nat):Int) > ((0:Nat):Int))),hb',rfl,rfl⟩⟩
       · have g:¬ (s0 :: sr).length ≤ 255 := Nat.not_le.2 (le_f (a := (s0 :: sr).length) g)
         conv => whnf
         exact Or.inr ⟨[1],.t [.c (szV 0 (s0 :: sr)),.c (.val (.bool false))],szH (s0 :: sr),⟨rfl,⟨rfl,rfl,trivial⟩,rfl⟩,rfl,.inr ⟨hnb,false,⟨fun h => Bool.noConfusion h,fun h => absurd (by rw [← hSl] at h; exact h.1) g⟩,rfl,rfl⟩⟩
end Go.Proofs.YtokkphocaloelaaGreatDoor

end
section
namespace Go.Proofs.YtokkphocaloelaaGreatDoor
open Go Go.Vc
set_option maxRecDepth 100000
set_option maxHeartbeats 8000000

def Pg.okW (p:Pg):Prop := ¬ p.bad ∧ p.segs.length ≤ 255 ∧ (p.more = true → p.parts ≠ []) ∧ 0 ≤ p.flags ∧ p.flags ≤ 7
theorem Pg.okW.good {p:Pg} (h:p.okW) (h1:p.ser < 4294967296) (h2:p.seq < 4294967296) (h3:p.gran < 18446744073709551616):p.good := by
 obtain ⟨a,b,c,d,e⟩ := h
 refine ⟨h1,h2,h3,d,e,b,fun hm => ⟨fun hn => c hm (List.map_eq_nil_iff.1 hn),fun x hx => Classical.byContradiction fun hc => a ⟨hm,x,hx,hc⟩⟩⟩
structure Pg.sane (p:Pg):Prop where
 ser:p.ser < 4294967296
 seq:p.seq < 4294967296
 gran:p.gran < 18446744073709551616
 cnt:p.parts.length ≤ 1099511627776
 siz:psz p.parts ≤ 1099511627776
 sgs:p.segs.length ≤ 1099511627776
theorem psz_pts (l:List ByteArray):(l.map bytesOf).flatten.length = psz l := by
 induction l with
 | nil => rfl
 | cons x r ih => rw [List.map_cons,List.flatten_cons,List.length_append,ih,bytesOf_len,psz]
theorem pageTextW (w0:World) {p:Pg} {v:Value} (hv:strsAt w0 v p.parts) (hsan:p.sane) :
   CallsA Tryz.prog w0 45 [.a (pgA p v)] [] fun r H =>
     (p.okW ∧ r = .t [.c (.val (.string (strOf (pgEnc p)))),.c (.val (.bool true))] ∧ H = []) ∨
     (¬ p.okW ∧ r = .t [.c (.val (.string (ByteArray.mk #[]))),.c (.val (.bool false))] ∧ H = []) := by
 have hsg := segmentsW w0 hv hsan.cnt (fun s hs => Nat.le_trans (psz_mem hs) hsan.siz) hsan.sgs
 refine callsA_of_ev c45_ ?_
 obtain ⟨S,hS⟩:∃ S,S = lenI p.segs := ⟨_,rfl⟩
 rw [← hS] at hsg
 conv => whnf
 refine cL0 hsg ?_
 rintro _ _ (⟨hb,rfl,rfl⟩ | ⟨hb,b,hbb,rfl,rfl⟩)
 · conv => whnf
   refine Or.inl ?_
   conv => whnf
   refine ⟨fun _ => ?_,fun g => zT g⟩
   conv => whnf
   exact Or.inr ⟨[],.t [.c (.val (.string (ByteArray.mk #[]))),.c (.val (.bool false))],[],⟨rfl,trivial,rfl⟩,rfl,.inr ⟨fun h => h.1 hb,rfl,rfl⟩⟩
 have w1:∀ (h0:0 ≤ p.flags) (h7:p.flags ≤ 7),IntKind.u8.wrap p.flags = p.flags := fun h0 h7 => by rw [IntKind.wrap_u8]; omega
 have w2:IntKind.u64.wrap ((p.ser:Nat):Int) = ((p.ser:Nat):Int) := nwrap64 (by have := hsan.ser; omega)
 have w3:IntKind.u64.wrap ((p.seq:Nat):Int) = ((p.seq:Nat):Int) := nwrap64 (by have := hsan.seq; omega)
 have hoS:(ByteArray.mk #[79,103,103,83,0]).size = 5 := rfl
 have hfin:some (AV.o (.c (.val (.string (ByteArray.mk #[79,103,103,83,0] ++ strOf [p.flags] ++ strOf (leL p.gran 8) ++ strOf (leL p.ser 4) ++ strOf (leL p.seq 4)))))) = some (AV.o (.c (.val (.string (strOf (pgHd p)))))) := by
   unfold pgHd
   rw [strOf_add,strOf_add,strOf_add,strOf_add]
   rfl
 cases S with
 | nil =>
   conv => whnf
   refine Or.inl ?_
   conv => whnf
   refine ⟨fun g1 => ?_,fun g1 => ?_⟩
   · have g1:b = false := by simpa using g1
     conv => whnf
     exact Or.inr ⟨[],.t [.c (.val (.string (ByteArray.mk #[]))),.c (.val (.bool false))],[],⟨rfl,trivial,rfl⟩,rfl,.inr ⟨fun h => by rw [g1] at hbb; exact Bool.noConfusion (hbb.2 ⟨h.2.1,h.2.2.1⟩),rfl,rfl⟩⟩
   have g1:b = true := by simpa using g1
   conv => whnf
   refine ⟨fun g2 => ?_,fun g2 => ?_⟩
   · have g2:p.flags < 0 := of_decide_eq_true g2
     conv => whnf
     exact Or.inr ⟨[],.t [.c (.val (.string (ByteArray.mk #[]))),.c (.val (.bool false))],[],⟨rfl,trivial,rfl⟩,rfl,.inr ⟨fun h => absurd h.2.2.2.1 (by omega),rfl,rfl⟩⟩
   have g2:¬ p.flags < 0 := of_decide_eq_false g2
   conv => whnf
   refine ⟨fun g3 => ?_,fun g3 => ?_⟩
   · have g3:p.flags > 7 := of_decide_eq_true g3
     conv => whnf
     exact Or.inr ⟨[],.t [.c (.val (.string (ByteArray.mk #[]))),.c (.val (.bool false))],[],⟨rfl,trivial,rfl⟩,rfl,.inr ⟨fun h => absurd h.2.2.2.2 (by omega),rfl,rfl⟩⟩
   have g3:¬ p.flags > 7 := of_decide_eq_false g3
   have hok:p.okW := ⟨hb,(hbb.1 g1).1,(hbb.1 g1).2,by omega,by omega⟩
   have hgood := hok.good hsan.ser hsan.seq hsan.gran
   have hcnt := hgood.cnt
   have w1 := w1 (by omega) (by omega)
   conv => whnf
   -- []: S as a pattern,[0]: renaming,⟨rfl,⟨rfl,rfl,trivial⟩,rfl⟩ its proof for H,rfl the second string's source
   refine Or.inr ⟨Unit,fun _ => ⟨[(1,.o (.c (.ptr 0 0))),(4,.o (.c (szV 1 []))),(6,.o (.c (.val (.string (strOf (pgHd p))))))],.cells 57 (pgA p v) :: szH []⟩,?_,fun _ => ?_⟩
   · conv => whnf
     rw [w1,w2,w3]
     refine ⟨?_,?_⟩
     · conv => whnf
       refine ⟨?_,?_⟩
       · conv => whnf
         repeat' (first | exact trivial | exact ⟨rfl,rfl⟩ | exact ⟨trivial,[p.flags],⟨rfl,rfl,rfl⟩,rfl,rfl⟩ | refine ⟨?_,?_⟩)
       conv => whnf
       refine ⟨trivial,[p.flags],⟨rfl,rfl,rfl⟩,?_⟩
       conv => whnf
       refine ⟨?_,?_⟩
       · simp only [strOf_siz,List.length_cons,List.length_nil,hoS]
         decide
       conv => whnf
       refine cL0 (leastW w0 p.gran (size := 8) (by decide)) ?_
       rintro _ _ ⟨rfl,rfl⟩
       refine ⟨?_,?_⟩
       · conv => whnf
         repeat' (first | exact trivial | exact ⟨rfl,rfl⟩ | exact ⟨trivial,[p.flags],⟨rfl,rfl,rfl⟩,rfl,rfl⟩ | refine ⟨?_,?_⟩)
       conv => whnf
       refine ⟨?_,?_⟩
       · simp only [ByteArray.size_append,strOf_siz,leL_len,List.length_cons,List.length_nil,hoS]
         decide
       conv => whnf
       refine cL0 (leastW w0 p.ser (size := 4) (by decide)) ?_
       rintro _ _ ⟨rfl,rfl⟩
       refine ⟨?_,?_⟩
       · conv => whnf
         repeat' (first | exact trivial | exact ⟨rfl,rfl⟩ | exact ⟨trivial,[p.flags],⟨rfl,rfl,rfl⟩,rfl,rfl⟩ | refine ⟨?_,?_⟩)
       conv => whnf
       refine ⟨?_,?_⟩
       · simp only [ByteArray.size_append,strOf_siz,leL_len,List.length_cons,List.length_nil,hoS]
         decide
       conv => whnf
       refine cL0 (leastW w0 p.seq (size := 4) (by decide)) ?_
       rintro _ _ ⟨rfl,rfl⟩
       refine ⟨?_,?_⟩
       · conv => whnf
         repeat' (first | exact trivial | exact ⟨rfl,rfl⟩ | exact ⟨trivial,[p.flags],⟨rfl,rfl,rfl⟩,rfl,rfl⟩ | refine ⟨?_,?_⟩)
       conv => whnf
       refine ⟨?_,?_⟩
       · simp only [ByteArray.size_append,strOf_siz,leL_len,List.length_cons,List.length_nil,hoS]
         decide
       conv => whnf
       exact ⟨(),[0],⟨rfl,⟨rfl,rfl,trivial⟩,rfl⟩,rfl,rfl,hfin,trivial⟩
     · conv => whnf
       refine cL0 (leastW w0 p.gran (size := 8) (by decide)) ?_
       rintro _ _ ⟨rfl,rfl⟩
       refine ⟨?_,?_⟩
       · conv => whnf
         repeat' (first | exact trivial | exact ⟨rfl,rfl⟩ | exact ⟨trivial,[p.flags],⟨rfl,rfl,rfl⟩,rfl,rfl⟩ | refine ⟨?_,?_⟩)
       conv => whnf
       refine ⟨?_,?_⟩
       · conv => whnf
         refine ⟨?_,?_⟩
         · conv => whnf
           repeat' (first | exact trivial | exact ⟨rfl,rfl⟩ | exact ⟨trivial,[p.flags],⟨rfl,rfl,rfl⟩,rfl,rfl⟩ | refine ⟨?_,?_⟩)
         conv => whnf
         refine ⟨trivial,[p.flags],⟨rfl,rfl,rfl⟩,?_⟩
         conv => whnf
         refine ⟨?_,?_⟩
         · simp only [strOf_siz,List.length_cons,List.length_nil,hoS]
           decide
         conv => whnf
         refine ⟨?_,?_⟩
         · simp only [ByteArray.size_append,strOf_siz,leL_len,List.length_cons,List.length_nil,hoS]
           decide
         conv => whnf
         refine cL0 (leastW w0 p.ser (size := 4) (by decide)) ?_
         rintro _ _ ⟨rfl,rfl⟩
         refine ⟨?_,?_⟩
         · conv => whnf
           repeat' (first | exact trivial | exact ⟨rfl,rfl⟩ | exact ⟨trivial,[p.flags],⟨rfl,rfl,rfl⟩,rfl,rfl⟩ | refine ⟨?_,?_⟩)
         conv => whnf
         refine ⟨?_,?_⟩
         · simp only [ByteArray.size_append,strOf_siz,leL_len,List.length_cons,List.length_nil,hoS]
           decide
         conv => whnf
         refine cL0 (leastW w0 p.seq (size := 4) (by decide)) ?_
         rintro _ _ ⟨rfl,rfl⟩
         refine ⟨?_,?_⟩
         · conv => whnf
           repeat' (first | exact trivial | exact ⟨rfl,rfl⟩ | exact ⟨trivial,[p.flags],⟨rfl,rfl,rfl⟩,rfl,rfl⟩ | refine ⟨?_,?_⟩)
         conv => whnf
         refine ⟨?_,?_⟩
         · simp only [ByteArray.size_append,strOf_siz,leL_len,List.length_cons,List.length_nil,hoS]
           decide
         conv => whnf
         exact ⟨(),[0],⟨rfl,⟨rfl,rfl,trivial⟩,rfl⟩,rfl,rfl,hfin,trivial⟩
       · conv => whnf
         refine cL0 (leastW w0 p.ser (size := 4) (by decide)) ?_
         rintro _ _ ⟨rfl,rfl⟩
         refine ⟨?_,?_⟩
         · conv => whnf
           repeat' (first | exact trivial | exact ⟨rfl,rfl⟩ | exact ⟨trivial,[p.flags],⟨rfl,rfl,rfl⟩,rfl,rfl⟩ | refine ⟨?_,?_⟩)
         conv => whnf
         refine ⟨?_,?_⟩
         · conv => whnf
           refine ⟨?_,?_⟩
           · conv => whnf
             repeat' (first | exact trivial | exact ⟨rfl,rfl⟩ | exact ⟨trivial,[p.flags],⟨rfl,rfl,rfl⟩,rfl,rfl⟩ | refine ⟨?_,?_⟩)
           conv => whnf
           refine ⟨trivial,[p.flags],⟨rfl,rfl,rfl⟩,?_⟩
           conv => whnf
           refine ⟨?_,?_⟩
           · simp only [strOf_siz,List.length_cons,List.length_nil,hoS]
             decide
           conv => whnf
           refine ⟨?_,?_⟩
           · simp only [ByteArray.size_append,strOf_siz,leL_len,List.length_cons,List.length_nil,hoS]
             decide
           conv => whnf
           refine ⟨?_,?_⟩
           · simp only [ByteArray.size_append,strOf_siz,leL_len,List.length_cons,List.length_nil,hoS]
             decide
           conv => whnf
           refine cL0 (leastW w0 p.seq (size := 4) (by decide)) ?_
           rintro _ _ ⟨rfl,rfl⟩
           refine ⟨?_,?_⟩
           · conv => whnf
             repeat' (first | exact trivial | exact ⟨rfl,rfl⟩ | exact ⟨trivial,[p.flags],⟨rfl,rfl,rfl⟩,rfl,rfl⟩ | refine ⟨?_,?_⟩)
           conv => whnf
           refine ⟨?_,?_⟩
           · simp only [ByteArray.size_append,strOf_siz,leL_len,List.length_cons,List.length_nil,hoS]
             decide
           conv => whnf
           exact ⟨(),[0],⟨rfl,⟨rfl,rfl,trivial⟩,rfl⟩,rfl,rfl,hfin,trivial⟩
         · conv => whnf
           refine cL0 (leastW w0 p.seq (size := 4) (by decide)) ?_
           rintro _ _ ⟨rfl,rfl⟩
           refine ⟨?_,?_⟩
           · conv => whnf
             repeat' (first | exact trivial | exact ⟨rfl,rfl⟩ | exact ⟨trivial,[p.flags],⟨rfl,rfl,rfl⟩,rfl,rfl⟩ | refine ⟨?_,?_⟩)
           conv => whnf
           refine ⟨?_,?_⟩
           · conv => whnf
             repeat' (first | exact trivial | exact ⟨rfl,rfl⟩ | exact ⟨trivial,[p.flags],⟨rfl,rfl,rfl⟩,rfl,rfl⟩ | refine ⟨?_,?_⟩)
           conv => whnf
           refine ⟨trivial,[p.flags],⟨rfl,rfl,rfl⟩,?_⟩
           conv => whnf
           refine ⟨?_,?_⟩
           · simp only [strOf_siz,List.length_cons,List.length_nil,hoS]
             decide
           conv => whnf
           refine ⟨?_,?_⟩
           · simp only [ByteArray.size_append,strOf_siz,leL_len,List.length_cons,List.length_nil,hoS]
             decide
           conv => whnf
           refine ⟨?_,?_⟩
           · simp only [ByteArray.size_append,strOf_siz,leL_len,List.length_cons,List.length_nil,hoS]
             decide
           conv => whnf
           refine ⟨?_,?_⟩
           · simp only [ByteArray.size_append,strOf_siz,leL_len,List.length_cons,List.length_nil,hoS]
             decide
           conv => whnf
           exact ⟨(),[0],⟨rfl,⟨rfl,rfl,trivial⟩,rfl⟩,rfl,rfl,hfin,trivial⟩
   have hSl:([]:List Int).length = p.segs.length := by
     rw [hS]
     unfold lenI
     rw [List.length_map]
   have w4:IntKind.u8.wrap ((([]:List Int).length:Nat):Int) = ((([]:List Int).length:Nat):Int) := nwrap8 (by omega)
   conv => whnf
   refine ⟨trivial,[IntKind.u8.wrap ((([]:List Int).length:Nat):Int)],⟨rfl,rfl,rfl⟩,?_⟩
   conv => whnf
   refine ⟨trivial,[],rfl,?_⟩
   conv => whnf
   refine ⟨by rw [strOf_siz,strOf_siz]; simp only [List.length_cons,List.length_nil] at hSl ⊢; omega,?_⟩
   conv => whnf
   have hX0:strOf [IntKind.u8.wrap ((([]:List Int).length:Nat):Int)] ++ strOf [] = strOf (([((([]:List Int).length:Nat):Int)] ++ []) ++ (p.pts.take 0).flatten) := by
     rw [w4,← strOf_add]
     exact congrArg strOf (List.append_nil _).symm
   rw [hX0]
   refine Or.inr ⟨Unit,fun _ => ⟨[(1,.o (.c (.ptr 0 0))),(6,.o (.c (.val (.string (strOf (pgHd p)))))),(7,.o (.c (.val (.string (strOf (([((([]:List Int).length:Nat):Int)] ++ []) ++ p.pts.flatten))))))],[.cells 57 (pgA p v)]⟩,?_,fun _ => ?_⟩
   · rcases hv with ⟨rfl,hp⟩ | ⟨a,c,rfl,hc,hb⟩
     · conv => whnf
       refine ⟨Unit,fun _ => ⟨[(1,.o (.c (.ptr 0 0))),(6,.o (.c (.val (.string (strOf (pgHd p)))))),(7,.o (.c (.val (.string (strOf (([((([]:List Int).length:Nat):Int)] ++ []) ++ (p.pts.take 0).flatten)))))),(57,.o (.c (.val (.int .i64 ((0:Nat):Int))))),(58,.o (.c (.val (.int .i64 ((0:Nat):Int)))))],[.cells 57 (pgA p (.slice none 0 0))]⟩,fun _ => 0,⟨(),[0],⟨rfl,⟨rfl,rfl,trivial⟩,rfl⟩,rfl,rfl,rfl,rfl,rfl,trivial⟩,fun _ => ?_⟩
       conv => whnf
       refine ⟨fun g => zF g,fun _ => ?_⟩
       conv => whnf
       refine ⟨(),[0],⟨rfl,⟨rfl,rfl,trivial⟩,rfl⟩,rfl,rfl,?_,trivial⟩
       have hpn:p.pts = [] := by unfold Pg.pts; rw [hp]; rfl
       rw [hpn]
       rfl
     · conv => whnf
       refine ⟨{j:Nat // j ≤ p.parts.length},fun ⟨j,_⟩ => ⟨[(1,.o (.c (.ptr 0 0))),(6,.o (.c (.val (.string (strOf (pgHd p)))))),(7,.o (.c (.val (.string (strOf (([((([]:List Int).length:Nat):Int)] ++ []) ++ (p.pts.take j).flatten)))))),(56,.o (.c (.val (.slice (some a) p.parts.length c)))),(57,.o (.c (.val (.int .i64 (p.parts.length:Nat))))),(58,.o (.c (.val (.int .i64 (j:Nat)))))],[.cells 57 (pgA p (.slice (some a) p.parts.length c))]⟩,fun j => p.parts.length - j.1,⟨⟨0,Nat.zero_le _⟩,[0],⟨rfl,⟨rfl,rfl,trivial⟩,rfl⟩,rfl,rfl,rfl,rfl,rfl,rfl,trivial⟩,fun ⟨j,hj⟩ => ?_⟩
       conv => whnf
       refine ⟨fun g => ?_,fun g => ?_⟩
       · have g:j < p.parts.length := lt_t g
         obtain ⟨s,hsx⟩:∃ s,p.parts[j]? = some s := ⟨_,List.getElem?_eq_getElem g⟩
         have hpt:p.pts[j]? = some (bytesOf s) := by unfold Pg.pts; rw [List.getElem?_map,hsx]; rfl
         have hss:s.size ≤ psz p.parts := psz_mem (List.mem_of_getElem? hsx)
         have hfl:(p.pts.take (j + 1)).flatten = (p.pts.take j).flatten ++ bytesOf s := by
           rw [List.take_add_one,hpt,List.flatten_append]
           simp
         have hfz:(p.pts.take j).flatten.length ≤ psz p.parts := by
           have h1:p.pts.flatten.length = psz p.parts := psz_pts p.parts
           have h2:p.pts.flatten = (p.pts.take j).flatten ++ (p.pts.drop j).flatten := by rw [← List.flatten_append,List.take_append_drop]
           rw [h2,List.length_append] at h1
           omega
         conv => whnf
         refine ⟨⟨Int.natCast_nonneg j,Int.ofNat_lt.2 g⟩,?_⟩
         conv => whnf
         refine ⟨.string s,?_⟩
         conv => whnf
         refine ⟨hb j s hsx,?_⟩
         conv => whnf
         refine ⟨rfl,?_⟩
         conv => whnf
         refine ⟨by rw [strOf_siz,List.length_append]; have := hsan.siz; simp only [List.length_append,List.length_cons,List.length_nil] at hSl ⊢; omega,?_⟩
         conv => whnf
         refine ⟨⟨j + 1,g⟩,⟨[0],⟨rfl,⟨rfl,rfl,trivial⟩,rfl⟩,rfl,rfl,?_,rfl,rfl,eq_i64 (by rw [nadd,nwrapi (by have := hsan.cnt; omega)]),trivial⟩,by show p.parts.length - (j + 1) < p.parts.length - j; omega⟩
         show some (AV.o (.c (.val (.string (strOf (([((([]:List Int).length:Nat):Int)] ++ []) ++ (p.pts.take j).flatten) ++ s))))) = some (AV.o (.c (.val (.string (strOf (([((([]:List Int).length:Nat):Int)] ++ []) ++ (p.pts.take (j + 1)).flatten))))))
         rw [hfl,← List.append_assoc,strOf_add _ (bytesOf s),str_bytes]
       · have g:p.parts.length ≤ j := lt_f g
         have hall:p.pts.take j = p.pts := List.take_of_length_le (by unfold Pg.pts; rw [List.length_map]; exact g)
         conv => whnf
         rw [hall]
         exact ⟨(),[0],⟨rfl,⟨rfl,rfl,trivial⟩,rfl⟩,rfl,rfl,rfl,trivial⟩
   have hT:strOf (([((([]:List Int).length:Nat):Int)] ++ []) ++ p.pts.flatten) = strOf (pgTl p) := by
     unfold pgTl
     rw [hS,show ((lenI p.segs).length:Nat) = p.segs.length from by unfold lenI; rw [List.length_map]]
   rw [hT]
   have hfz:p.pts.flatten.length ≤ 1099511627776 := by
     have h1:p.pts.flatten.length = psz p.parts := psz_pts p.parts
     have := hsan.siz
     omega
   have hTl:(pgTl p).length ≤ 1099511627776 + 256 := by
     unfold pgTl lenI
     simp only [List.length_append,List.length_cons,List.length_nil,List.length_map]
     omega
   conv => whnf
   refine ⟨by rw [strOf_siz,pgHd_len]; decide,?_⟩
   conv => whnf
   refine ⟨by rw [ByteArray.size_append,strOf_siz,strOf_siz,pgHd_len,show (ByteArray.mk #[0,0,0,0]).size = 4 from rfl]; omega,?_⟩
   conv => whnf
   have hsum:crcS (bytesOf (strOf (pgHd p) ++ ByteArray.mk #[0,0,0,0] ++ strOf (pgTl p))) = pgSum p := by
     rw [bytes_add,bytes_add,bytes_str (pgHd_byt hgood),bytes_str (pgTl_byt hgood)]
     rfl
   have hsl := pgSum_lt hgood
   refine cL0 (oggSumW w0 (b := strOf (pgHd p) ++ ByteArray.mk #[0,0,0,0] ++ strOf (pgTl p)) (by rw [ByteArray.size_append,ByteArray.size_append,strOf_siz,strOf_siz,pgHd_len,show (ByteArray.mk #[0,0,0,0]).size = 4 from rfl]; omega)) ?_
   rw [hsum]
   rintro _ _ ⟨rfl,rfl⟩
   conv => whnf
   rw [nwrap64 (n := pgSum p) (by omega)]
   refine cL0 (leastW w0 (pgSum p) (size := 4) (by decide)) ?_
   rintro _ _ ⟨rfl,rfl⟩
   conv => whnf
   refine ⟨by rw [strOf_siz,strOf_siz,pgHd_len,leL_len]; decide,?_⟩
   conv => whnf
   refine ⟨by rw [ByteArray.size_append,strOf_siz,strOf_siz,strOf_siz,pgHd_len,leL_len]; omega,?_⟩
   conv => whnf
   rw [show strOf (pgHd p) ++ strOf (leL (pgSum p) 4) ++ strOf (pgTl p) = strOf (pgEnc p) by rw [← strOf_add,← strOf_add]; rfl]
   exact Or.inr ⟨[],.t [.c (.val (.string (strOf (pgEnc p)))),.c (.val (.bool true))],[],⟨rfl,trivial,rfl⟩,rfl,.inl ⟨hok,rfl,rfl⟩⟩
 | cons s0 sr =>
   conv => whnf
   refine Or.inl ?_
   conv => whnf
   refine ⟨fun g1 => ?_,fun g1 => ?_⟩
   · have g1:b = false := by simpa using g1
     conv => whnf
     exact Or.inr ⟨[],.t [.c (.val (.string (ByteArray.mk #[]))),.c (.val (.bool false))],[],⟨rfl,trivial,rfl⟩,rfl,.inr ⟨fun h => by rw [g1] at hbb; exact Bool.noConfusion (hbb.2 ⟨h.2.1,h.2.2.1⟩),rfl,rfl⟩⟩
   have g1:b = true := by simpa using g1
   conv => whnf
   refine ⟨fun g2 => ?_,fun g2 => ?_⟩
   · have g2:p.flags < 0 := of_decide_eq_true g2
     conv => whnf
     exact Or.inr ⟨[],.t [.c (.val (.string (ByteArray.mk #[]))),.c (.val (.bool false))],[],⟨rfl,trivial,rfl⟩,rfl,.inr ⟨fun h => absurd h.2.2.2.1 (by omega),rfl,rfl⟩⟩
   have g2:¬ p.flags < 0 := of_decide_eq_false g2
   conv => whnf
   refine ⟨fun g3 => ?_,fun g3 => ?_⟩
   · have g3:p.flags > 7 := of_decide_eq_true g3
     conv => whnf
     exact Or.inr ⟨[],.t [.c (.val (.string (ByteArray.mk #[]))),.c (.val (.bool false))],[],⟨rfl,trivial,rfl⟩,rfl,.inr ⟨fun h => absurd h.2.2.2.2 (by omega),rfl,rfl⟩⟩
   have g3:¬ p.flags > 7 := of_decide_eq_false g3
   have hok:p.okW := ⟨hb,(hbb.1 g1).1,(hbb.1 g1).2,by omega,by omega⟩
   have hgood := hok.good hsan.ser hsan.seq hsan.gran
   have hcnt := hgood.cnt
   have w1 := w1 (by omega) (by omega)
   conv => whnf
   -- (s0 :: sr): S as a pattern,[0,1]: renaming,⟨rfl,⟨rfl,rfl,rfl,rfl,trivial⟩,rfl⟩ its proof for H,⟨rfl,Nat.le_refl _,rfl,by rw [List.take_of_length_le (Nat.le_refl _)]⟩ the second string's source
   refine Or.inr ⟨Unit,fun _ => ⟨[(1,.o (.c (.ptr 0 0))),(4,.o (.c (szV 1 (s0 :: sr)))),(6,.o (.c (.val (.string (strOf (pgHd p))))))],.cells 57 (pgA p v) :: szH (s0 :: sr)⟩,?_,fun _ => ?_⟩
   · conv => whnf
     rw [w1,w2,w3]
     refine ⟨?_,?_⟩
     · conv => whnf
       refine ⟨?_,?_⟩
       · conv => whnf
         repeat' (first | exact trivial | exact ⟨rfl,rfl⟩ | exact ⟨trivial,[p.flags],⟨rfl,rfl,rfl⟩,rfl,rfl⟩ | refine ⟨?_,?_⟩)
       conv => whnf
       refine ⟨trivial,[p.flags],⟨rfl,rfl,rfl⟩,?_⟩
       conv => whnf
       refine ⟨?_,?_⟩
       · simp only [strOf_siz,List.length_cons,List.length_nil,hoS]
         decide
       conv => whnf
       refine cL0 (leastW w0 p.gran (size := 8) (by decide)) ?_
       rintro _ _ ⟨rfl,rfl⟩
       refine ⟨?_,?_⟩
       · conv => whnf
         repeat' (first | exact trivial | exact ⟨rfl,rfl⟩ | exact ⟨trivial,[p.flags],⟨rfl,rfl,rfl⟩,rfl,rfl⟩ | refine ⟨?_,?_⟩)
       conv => whnf
       refine ⟨?_,?_⟩
       · simp only [ByteArray.size_append,strOf_siz,leL_len,List.length_cons,List.length_nil,hoS]
         decide
       conv => whnf
       refine cL0 (leastW w0 p.ser (size := 4) (by decide)) ?_
       rintro _ _ ⟨rfl,rfl⟩
       refine ⟨?_,?_⟩
       · conv => whnf
         repeat' (first | exact trivial | exact ⟨rfl,rfl⟩ | exact ⟨trivial,[p.flags],⟨rfl,rfl,rfl⟩,rfl,rfl⟩ | refine ⟨?_,?_⟩)
       conv => whnf
       refine ⟨?_,?_⟩
       · simp only [ByteArray.size_append,strOf_siz,leL_len,List.length_cons,List.length_nil,hoS]
         decide
       conv => whnf
       refine cL0 (leastW w0 p.seq (size := 4) (by decide)) ?_
       rintro _ _ ⟨rfl,rfl⟩
       refine ⟨?_,?_⟩
       · conv => whnf
         repeat' (first | exact trivial | exact ⟨rfl,rfl⟩ | exact ⟨trivial,[p.flags],⟨rfl,rfl,rfl⟩,rfl,rfl⟩ | refine ⟨?_,?_⟩)
       conv => whnf
       refine ⟨?_,?_⟩
       · simp only [ByteArray.size_append,strOf_siz,leL_len,List.length_cons,List.length_nil,hoS]
         decide
       conv => whnf
       exact ⟨(),[0,1],⟨rfl,⟨rfl,rfl,rfl,rfl,trivial⟩,rfl⟩,rfl,rfl,hfin,trivial⟩
     · conv => whnf
       refine cL0 (leastW w0 p.gran (size := 8) (by decide)) ?_
       rintro _ _ ⟨rfl,rfl⟩
       refine ⟨?_,?_⟩
       · conv => whnf
         repeat' (first | exact trivial | exact ⟨rfl,rfl⟩ | exact ⟨trivial,[p.flags],⟨rfl,rfl,rfl⟩,rfl,rfl⟩ | refine ⟨?_,?_⟩)
       conv => whnf
       refine ⟨?_,?_⟩
       · conv => whnf
         refine ⟨?_,?_⟩
         · conv => whnf
           repeat' (first | exact trivial | exact ⟨rfl,rfl⟩ | exact ⟨trivial,[p.flags],⟨rfl,rfl,rfl⟩,rfl,rfl⟩ | refine ⟨?_,?_⟩)
         conv => whnf
         refine ⟨trivial,[p.flags],⟨rfl,rfl,rfl⟩,?_⟩
         conv => whnf
         refine ⟨?_,?_⟩
         · simp only [strOf_siz,List.length_cons,List.length_nil,hoS]
           decide
         conv => whnf
         refine ⟨?_,?_⟩
         · simp only [ByteArray.size_append,strOf_siz,leL_len,List.length_cons,List.length_nil,hoS]
           decide
         conv => whnf
         refine cL0 (leastW w0 p.ser (size := 4) (by decide)) ?_
         rintro _ _ ⟨rfl,rfl⟩
         refine ⟨?_,?_⟩
         · conv => whnf
           repeat' (first | exact trivial | exact ⟨rfl,rfl⟩ | exact ⟨trivial,[p.flags],⟨rfl,rfl,rfl⟩,rfl,rfl⟩ | refine ⟨?_,?_⟩)
         conv => whnf
         refine ⟨?_,?_⟩
         · simp only [ByteArray.size_append,strOf_siz,leL_len,List.length_cons,List.length_nil,hoS]
           decide
         conv => whnf
         refine cL0 (leastW w0 p.seq (size := 4) (by decide)) ?_
         rintro _ _ ⟨rfl,rfl⟩
         refine ⟨?_,?_⟩
         · conv => whnf
           repeat' (first | exact trivial | exact ⟨rfl,rfl⟩ | exact ⟨trivial,[p.flags],⟨rfl,rfl,rfl⟩,rfl,rfl⟩ | refine ⟨?_,?_⟩)
         conv => whnf
         refine ⟨?_,?_⟩
         · simp only [ByteArray.size_append,strOf_siz,leL_len,List.length_cons,List.length_nil,hoS]
           decide
         conv => whnf
         exact ⟨(),[0,1],⟨rfl,⟨rfl,rfl,rfl,rfl,trivial⟩,rfl⟩,rfl,rfl,hfin,trivial⟩
       · conv => whnf
         refine cL0 (leastW w0 p.ser (size := 4) (by decide)) ?_
         rintro _ _ ⟨rfl,rfl⟩
         refine ⟨?_,?_⟩
         · conv => whnf
           repeat' (first | exact trivial | exact ⟨rfl,rfl⟩ | exact ⟨trivial,[p.flags],⟨rfl,rfl,rfl⟩,rfl,rfl⟩ | refine ⟨?_,?_⟩)
         conv => whnf
         refine ⟨?_,?_⟩
         · conv => whnf
           refine ⟨?_,?_⟩
           · conv => whnf
             repeat' (first | exact trivial | exact ⟨rfl,rfl⟩ | exact ⟨trivial,[p.flags],⟨rfl,rfl,rfl⟩,rfl,rfl⟩ | refine ⟨?_,?_⟩)
           conv => whnf
           refine ⟨trivial,[p.flags],⟨rfl,rfl,rfl⟩,?_⟩
           conv => whnf
           refine ⟨?_,?_⟩
           · simp only [strOf_siz,List.length_cons,List.length_nil,hoS]
             decide
           conv => whnf
           refine ⟨?_,?_⟩
           · simp only [ByteArray.size_append,strOf_siz,leL_len,List.length_cons,List.length_nil,hoS]
             decide
           conv => whnf
           refine ⟨?_,?_⟩
           · simp only [ByteArray.size_append,strOf_siz,leL_len,List.length_cons,List.length_nil,hoS]
             decide
           conv => whnf
           refine cL0 (leastW w0 p.seq (size := 4) (by decide)) ?_
           rintro _ _ ⟨rfl,rfl⟩
           refine ⟨?_,?_⟩
           · conv => whnf
             repeat' (first | exact trivial | exact ⟨rfl,rfl⟩ | exact ⟨trivial,[p.flags],⟨rfl,rfl,rfl⟩,rfl,rfl⟩ | refine ⟨?_,?_⟩)
           conv => whnf
           refine ⟨?_,?_⟩
           · simp only [ByteArray.size_append,strOf_siz,leL_len,List.length_cons,List.length_nil,hoS]
             decide
           conv => whnf
           exact ⟨(),[0,1],⟨rfl,⟨rfl,rfl,rfl,rfl,trivial⟩,rfl⟩,rfl,rfl,hfin,trivial⟩
         · conv => whnf
           refine cL0 (leastW w0 p.seq (size := 4) (by decide)) ?_
           rintro _ _ ⟨rfl,rfl⟩
           refine ⟨?_,?_⟩
           · conv => whnf
             repeat' (first | exact trivial | exact ⟨rfl,rfl⟩ | exact ⟨trivial,[p.flags],⟨rfl,rfl,rfl⟩,rfl,rfl⟩ | refine ⟨?_,?_⟩)
           conv => whnf
           refine ⟨?_,?_⟩
           · conv => whnf
             repeat' (first | exact trivial | exact ⟨rfl,rfl⟩ | exact ⟨trivial,[p.flags],⟨rfl,rfl,rfl⟩,rfl,rfl⟩ | refine ⟨?_,?_⟩)
           conv => whnf
           refine ⟨trivial,[p.flags],⟨rfl,rfl,rfl⟩,?_⟩
           conv => whnf
           refine ⟨?_,?_⟩
           · simp only [strOf_siz,List.length_cons,List.length_nil,hoS]
             decide
           conv => whnf
           refine ⟨?_,?_⟩
           · simp only [ByteArray.size_append,strOf_siz,leL_len,List.length_cons,List.length_nil,hoS]
             decide
           conv => whnf
           refine ⟨?_,?_⟩
           · simp only [ByteArray.size_append,strOf_siz,leL_len,List.length_cons,List.length_nil,hoS]
             decide
           conv => whnf
           refine ⟨?_,?_⟩
           · simp only [ByteArray.size_append,strOf_siz,leL_len,List.length_cons,List.length_nil,hoS]
             decide
           conv => whnf
           exact ⟨(),[0,1],⟨rfl,⟨rfl,rfl,rfl,rfl,trivial⟩,rfl⟩,rfl,rfl,hfin,trivial⟩
   have hSl:((s0 :: sr):List Int).length = p.segs.length := by
     rw [hS]
     unfold lenI
     rw [List.length_map]
   have w4:IntKind.u8.wrap ((((s0 :: sr):List Int).length:Nat):Int) = ((((s0 :: sr):List Int).length:Nat):Int) := nwrap8 (by omega)
   conv => whnf
   refine ⟨trivial,[IntKind.u8.wrap ((((s0 :: sr):List Int).length:Nat):Int)],⟨rfl,rfl,rfl⟩,?_⟩
   conv => whnf
   refine ⟨trivial,(s0 :: sr),⟨rfl,Nat.le_refl _,rfl,by rw [List.take_of_length_le (Nat.le_refl _)]⟩,?_⟩
   conv => whnf
   refine ⟨by rw [strOf_siz,strOf_siz]; simp only [List.length_cons,List.length_nil] at hSl ⊢; omega,?_⟩
   conv => whnf
   have hX0:strOf [IntKind.u8.wrap ((((s0 :: sr):List Int).length:Nat):Int)] ++ strOf (s0 :: sr) = strOf (([((((s0 :: sr):List Int).length:Nat):Int)] ++ (s0 :: sr)) ++ (p.pts.take 0).flatten) := by
     rw [w4,← strOf_add]
     exact congrArg strOf (List.append_nil _).symm
   rw [hX0]
   refine Or.inr ⟨Unit,fun _ => ⟨[(1,.o (.c (.ptr 0 0))),(6,.o (.c (.val (.string (strOf (pgHd p)))))),(7,.o (.c (.val (.string (strOf (([((((s0 :: sr):List Int).length:Nat):Int)] ++ (s0 :: sr)) ++ p.pts.flatten))))))],[.cells 57 (pgA p v)]⟩,?_,fun _ => ?_⟩
   · rcases hv with ⟨rfl,hp⟩ | ⟨a,c,rfl,hc,hb⟩
     · conv => whnf
       refine ⟨Unit,fun _ => ⟨[(1,.o (.c (.ptr 0 0))),(6,.o (.c (.val (.string (strOf (pgHd p)))))),(7,.o (.c (.val (.string (strOf (([((((s0 :: sr):List Int).length:Nat):Int)] ++ (s0 :: sr)) ++ (p.pts.take 0).flatten)))))),(57,.o (.c (.val (.int .i64 ((0:Nat):Int))))),(58,.o (.c (.val (.int .i64 ((0:Nat):Int)))))],[.cells 57 (pgA p (.slice none 0 0))]⟩,fun _ => 0,⟨(),[0],⟨rfl,⟨rfl,rfl,trivial⟩,rfl⟩,rfl,rfl,rfl,rfl,rfl,trivial⟩,fun _ => ?_⟩
       conv => whnf
       refine ⟨fun g => zF g,fun _ => ?_⟩
       conv => whnf
       refine ⟨(),[0],⟨rfl,⟨rfl,rfl,trivial⟩,rfl⟩,rfl,rfl,?_,trivial⟩
       have hpn:p.pts = [] := by unfold Pg.pts; rw [hp]; rfl
       rw [hpn]
       rfl
     · conv => whnf
       refine ⟨{j:Nat // j ≤ p.parts.length},fun ⟨j,_⟩ => ⟨[(1,.o (.c (.ptr 0 0))),(6,.o (.c (.val (.string (strOf (pgHd p)))))),(7,.o (.c (.val (.string (strOf (([((((s0 :: sr):List Int).length:Nat):Int)] ++ (s0 :: sr)) ++ (p.pts.take j).flatten)))))),(56,.o (.c (.val (.slice (some a) p.parts.length c)))),(57,.o (.c (.val (.int .i64 (p.parts.length:Nat))))),(58,.o (.c (.val (.int .i64 (j:Nat)))))],[.cells 57 (pgA p (.slice (some a) p.parts.length c))]⟩,fun j => p.parts.length - j.1,⟨⟨0,Nat.zero_le _⟩,[0],⟨rfl,⟨rfl,rfl,trivial⟩,rfl⟩,rfl,rfl,rfl,rfl,rfl,rfl,trivial⟩,fun ⟨j,hj⟩ => ?_⟩
       conv => whnf
       refine ⟨fun g => ?_,fun g => ?_⟩
       · have g:j < p.parts.length := lt_t g
         obtain ⟨s,hsx⟩:∃ s,p.parts[j]? = some s := ⟨_,List.getElem?_eq_getElem g⟩
         have hpt:p.pts[j]? = some (bytesOf s) := by unfold Pg.pts; rw [List.getElem?_map,hsx]; rfl
         have hss:s.size ≤ psz p.parts := psz_mem (List.mem_of_getElem? hsx)
         have hfl:(p.pts.take (j + 1)).flatten = (p.pts.take j).flatten ++ bytesOf s := by
           rw [List.take_add_one,hpt,List.flatten_append]
           simp
         have hfz:(p.pts.take j).flatten.length ≤ psz p.parts := by
           have h1:p.pts.flatten.length = psz p.parts := psz_pts p.parts
           have h2:p.pts.flatten = (p.pts.take j).flatten ++ (p.pts.drop j).flatten := by rw [← List.flatten_append,List.take_append_drop]
           rw [h2,List.length_append] at h1
           omega
         conv => whnf
         refine ⟨⟨Int.natCast_nonneg j,Int.ofNat_lt.2 g⟩,?_⟩
         conv => whnf
         refine ⟨.string s,?_⟩
         conv => whnf
         refine ⟨hb j s hsx,?_⟩
         conv => whnf
         refine ⟨rfl,?_⟩
         conv => whnf
         refine ⟨by rw [strOf_siz,List.length_append]; have := hsan.siz; simp only [List.length_append,List.length_cons,List.length_nil] at hSl ⊢; omega,?_⟩
         conv => whnf
         refine ⟨⟨j + 1,g⟩,⟨[0],⟨rfl,⟨rfl,rfl,trivial⟩,rfl⟩,rfl,rfl,?_,rfl,rfl,eq_i64 (by rw [nadd,nwrapi (by have := hsan.cnt; omega)]),trivial⟩,by show p.parts.length - (j + 1) < p.parts.length - j; omega⟩
         show some (AV.o (.c (.val (.string (strOf (([((((s0 :: sr):List Int).length:Nat):Int)] ++ (s0 :: sr)) ++ (p.pts.take j).flatten) ++ s))))) = some (AV.o (.c (.val (.string (strOf (([((((s0 :: sr):List Int).length:Nat):Int)] ++ (s0 :: sr)) ++ (p.pts.take (j + 1)).flatten))))))
         rw [hfl,← List.append_assoc,strOf_add _ (bytesOf s),str_bytes]
       · have g:p.parts.length ≤ j := lt_f g
         have hall:p.pts.take j = p.pts := List.take_of_length_le (by unfold Pg.pts; rw [List.length_map]; exact g)
         conv => whnf
         rw [hall]
         exact ⟨(),[0],⟨rfl,⟨rfl,rfl,trivial⟩,rfl⟩,rfl,rfl,rfl,trivial⟩
   have hT:strOf (([((((s0 :: sr):List Int).length:Nat):Int)] ++ (s0 :: sr)) ++ p.pts.flatten) = strOf (pgTl p) := by
     unfold pgTl
     rw [hS,show ((lenI p.segs).length:Nat) = p.segs.length from by unfold lenI; rw [List.length_map]]
   rw [hT]
   have hfz:p.pts.flatten.length ≤ 1099511627776 := by
     have h1:p.pts.flatten.length = psz p.parts := psz_pts p.parts
     have := hsan.siz
     omega
   have hTl:(pgTl p).length ≤ 1099511627776 + 256 := by
     unfold pgTl lenI
     simp only [List.length_append,List.length_cons,List.length_nil,List.length_map]
     omega
   conv => whnf
   refine ⟨by rw [strOf_siz,pgHd_len]; decide,?_⟩
   conv => whnf
   refine ⟨by rw [ByteArray.size_append,strOf_siz,strOf_siz,pgHd_len,show (ByteArray.mk #[0,0,0,0]).size = 4 from rfl]; omega,?_⟩
   conv => whnf
   have hsum:crcS (bytesOf (strOf (pgHd p) ++ ByteArray.mk #[0,0,0,0] ++ strOf (pgTl p))) = pgSum p := by
     rw [bytes_add,bytes_add,bytes_str (pgHd_byt hgood),bytes_str (pgTl_byt hgood)]
     rfl
   have hsl := pgSum_lt hgood
   refine cL0 (oggSumW w0 (b := strOf (pgHd p) ++ ByteArray.mk #[0,0,0,0] ++ strOf (pgTl p)) (by rw [ByteArray.size_append,ByteArray.size_append,strOf_siz,strOf_siz,pgHd_len,show (ByteArray.mk #[0,0,0,0]).size = 4 from rfl]; omega)) ?_
   rw [hsum]
   rintro _ _ ⟨rfl,rfl⟩
   conv => whnf
   rw [nwrap64 (n := pgSum p) (by omega)]
   refine cL0 (leastW w0 (pgSum p) (size := 4) (by decide)) ?_
   rintro _ _ ⟨rfl,rfl⟩
   conv => whnf
   refine ⟨by rw [strOf_siz,strOf_siz,pgHd_len,leL_len]; decide,?_⟩
   conv => whnf
   refine ⟨by rw [ByteArray.size_append,strOf_siz,strOf_siz,strOf_siz,pgHd_len,leL_len]; omega,?_⟩
   conv => whnf
   rw [show strOf (pgHd p) ++ strOf (leL (pgSum p) 4) ++ strOf (pgTl p) = strOf (pgEnc p) by rw [← strOf_add,← strOf_add]; rfl]
   exact Or.inr ⟨[],.t [.c (.val (.string (strOf (pgEnc p)))),.c (.val (.bool true))],[],⟨rfl,trivial,rfl⟩,rfl,.inl ⟨hok,rfl,rfl⟩⟩
end Go.Proofs.YtokkphocaloelaaGreatDoor

end
section
namespace Go.Proofs.YtokkphocaloelaaGreatDoor
open Go Go.Vc
set_option maxRecDepth 100000
set_option maxHeartbeats 8000000

structure pgCells (w0:World) (b:Addr) (p:Pg) (v:Value):Prop where
 c0:w0.cell? (b.add 0) = some (.int .u32 (p.ser:Nat))
 c1:w0.cell? (b.add 1) = some (.int .u32 (p.seq:Nat))
 c2:w0.cell? (b.add 2) = some (.int .u64 (p.gran:Nat))
 c3:w0.cell? (b.add 3) = some (.int .i64 p.flags)
 c4:w0.cell? (b.add 4) = some v
 c5:w0.cell? (b.add 5) = some (.bool p.more)
 one:v.oneCell' = true
 str:strsAt w0 v p.parts
 fit:p.ser < 4294967296 ∧ p.seq < 4294967296 ∧ p.gran < 18446744073709551616 ∧ -9223372036854775808 ≤ p.flags ∧ p.flags < 9223372036854775808
def pgsAt (w0:World) (v:Value) (xs:List (Pg × Value)):Prop :=
 (v = .slice none 0 0 ∧ xs = []) ∨ ∃ a c,v = .slice (some a) xs.length c ∧ xs.length ≤ c ∧ ∀ (i:Nat) x,xs[i]? = some x → pgCells w0 (a.add (i * 6)) x.1 x.2
def wtx (xs:List (Pg × Value)):Nat := wts (xs.map Prod.fst)
theorem wts_mem {l:List Pg} {p:Pg} (h:p ∈ l):p.wt ≤ wts l := by
 induction l with
 | nil => cases h
 | cons x r ih =>
   rcases List.mem_cons.1 h with rfl | h
   · exact Nat.le_add_right _ _
   · exact Nat.le_trans (ih h) (Nat.le_add_left _ _)
theorem wts_len (l:List Pg):27 * l.length ≤ wts l := by
 induction l with
 | nil => exact Nat.le_refl _
 | cons x r ih =>
   show 27 * (r.length + 1) ≤ x.wt + wts r
   unfold Pg.wt
   omega
theorem lace_len (more:Bool):∀ (ps:List (List Int)),(lace more ps).length ≤ ps.length + ps.flatten.length
 | [] => Nat.le_refl _
 | x :: r => by
   have ih := lace_len more r
   show (lc x ++ (if r = [] ∧ more = true then [] else [lr x]) ++ lace more r).length ≤ _
   have h1:(lc x).length = x.length / 255 := by
     have:∀ (n:Nat) (x:List Int),(full n x).length = n := by
       intro n
       induction n with
       | zero => intro x; rfl
       | succ n ih => intro x; show (full n _).length + 1 = n + 1; rw [ih]
     exact this _ _
   have h2:(if r = [] ∧ more = true then [] else [lr x]).length ≤ 1 := by split <;> simp
   rw [List.length_append,List.length_append,h1,List.length_cons,List.flatten_cons,List.length_append]
   omega
theorem Pg.sane_of {p:Pg} (h:p.ser < 4294967296 ∧ p.seq < 4294967296 ∧ p.gran < 18446744073709551616) (hw:p.wt ≤ 1073741824):p.sane := by
 unfold Pg.wt at hw
 have h1:p.segs.length ≤ p.pts.length + p.pts.flatten.length := lace_len _ _
 have h2:p.pts.flatten.length = psz p.parts := psz_pts _
 have h3:p.pts.length = p.parts.length := List.length_map ..
 exact ⟨h.1,h.2.1,h.2.2,by omega,by omega,by omega⟩
def encAll (ps:List Pg):List Int := (ps.map pgEnc).flatten
theorem pgEnc_size {p:Pg} (h:p.good):(pgEnc p).length ≤ 282 + psz p.parts := by
 rw [pgEnc_len h,segs_flat h,show p.pts.flatten.length = psz p.parts from psz_pts _]
 have := h.cnt
 omega
theorem encAll_size:∀ (ps:List Pg),(∀ p ∈ ps,p.good) → (encAll ps).length ≤ 12 * wts ps
 | [],_ => Nat.le_refl _
 | p :: r,h => by
   have h1 := pgEnc_size (h p (List.mem_cons_self ..))
   have h2 := encAll_size r fun q hq => h q (List.mem_cons_of_mem _ hq)
   show (pgEnc p ++ encAll r).length ≤ 12 * (p.wt + wts r)
   rw [List.length_append]
   unfold Pg.wt
   omega
theorem oggWriteW (w0:World) {v:Value} {xs:List (Pg × Value)} (hv:pgsAt w0 v xs) (hw:wtx xs ≤ 1073741824) :
   CallsA Tryz.prog w0 21 [.c (.val v)] [] fun r H =>
     ((∀ x ∈ xs,x.1.okW) ∧ r = .t [.c (.val (.string (strOf (encAll (xs.map Prod.fst))))),.c (.val (.int .i64 ((1:Nat):Int)))] ∧ H = []) ∨
     ((∃ x ∈ xs,¬ x.1.okW) ∧ r = .t [.c (.val (.string (ByteArray.mk #[]))),.c (.val (.int .i64 ((2:Nat):Int)))] ∧ H = []) := by
 have hlen := wts_len (xs.map Prod.fst)
 rw [List.length_map] at hlen
 unfold wtx at hw
 refine callsA_of_ev c21_ ?_
 conv => whnf
 refine Or.inr ⟨PLift (∀ x ∈ xs,x.1.okW),fun _ => ⟨[(4,.o (.c (.val (.string (strOf (encAll (xs.map Prod.fst)))))))],[]⟩,?_,fun ⟨hok⟩ => ?_⟩
 · rcases hv with ⟨rfl,rfl⟩ | ⟨a,c,rfl,hc,hb⟩
   · conv => whnf
     refine ⟨Unit,fun _ => ⟨[(4,.o (.c (.val (.string (ByteArray.mk #[]))))),(10,.o (.c (.val (.int .i64 ((0:Nat):Int))))),(11,.o (.c (.val (.int .i64 ((0:Nat):Int)))))],[]⟩,fun _ => 0,⟨(),[],⟨rfl,trivial,rfl⟩,rfl,rfl,rfl,trivial⟩,fun _ => ?_⟩
     conv => whnf
     refine ⟨fun g => zF g,fun _ => ?_⟩
     conv => whnf
     exact ⟨⟨fun x hx => (List.not_mem_nil hx).elim⟩,[],⟨rfl,trivial,rfl⟩,rfl,trivial⟩
   · conv => whnf
     refine ⟨{j:Nat // j ≤ xs.length ∧ ∀ x ∈ xs.take j,x.1.okW},fun ⟨j,_⟩ => ⟨[(4,.o (.c (.val (.string (strOf (encAll ((xs.take j).map Prod.fst))))))),(9,.o (.c (.val (.slice (some a) xs.length c)))),(10,.o (.c (.val (.int .i64 (xs.length:Nat))))),(11,.o (.c (.val (.int .i64 (j:Nat)))))],[]⟩,fun j => xs.length - j.1,⟨⟨0,Nat.zero_le _,fun x hx => (List.not_mem_nil hx).elim⟩,[],⟨rfl,trivial,rfl⟩,rfl,rfl,rfl,rfl,trivial⟩,fun ⟨j,hj,hoks⟩ => ?_⟩
     conv => whnf
     refine ⟨fun g => ?_,fun g => ?_⟩
     · have g:j < xs.length := lt_t g
       obtain ⟨⟨p,pv⟩,hx⟩:∃ x,xs[j]? = some x := ⟨_,List.getElem?_eq_getElem g⟩
       have hcl := hb j _ hx
       simp only at hcl
       have hpm:p ∈ xs.map Prod.fst := List.mem_map.2 ⟨_,List.mem_of_getElem? hx,rfl⟩
       have hpw := wts_mem hpm
       have hsan := Pg.sane_of (p := p) ⟨hcl.fit.1,hcl.fit.2.1,hcl.fit.2.2.1⟩ (by omega)
       have htk:(xs.take (j + 1)).map Prod.fst = (xs.take j).map Prod.fst ++ [p] := by rw [List.take_add_one,hx,List.map_append]; rfl
       have hgs:∀ q ∈ (xs.take j).map Prod.fst,q.good := fun q hq => by
         obtain ⟨y,hy,rfl⟩ := List.mem_map.1 hq
         obtain ⟨i,hi,hyi⟩ := List.mem_iff_getElem.1 hy
         have hyx:xs[i]? = some y := by
           rw [← hyi,List.getElem_take]
           exact List.getElem?_eq_getElem _
         have := (hb i y hyx).fit
         exact (hoks y hy).good this.1 this.2.1 this.2.2.1
       have hsz := encAll_size _ hgs
       have hwt:wts ((xs.take j).map Prod.fst) + p.wt ≤ wts (xs.map Prod.fst) := by
         have h1 := wts_add ((xs.take (j + 1)).map Prod.fst) ((xs.drop (j + 1)).map Prod.fst)
         rw [← List.map_append,List.take_append_drop,htk,wts_add] at h1
         have:wts [p] = p.wt := Nat.add_zero _
         omega
       conv => whnf
       refine Or.inl ?_
       conv => whnf
       refine ⟨⟨Int.natCast_nonneg j,Int.ofNat_lt.2 g⟩,?_⟩
       conv => whnf
       refine ⟨.int .u32 (p.ser:Nat),?_⟩
       conv => whnf
       refine ⟨hcl.c0,?_⟩
       conv => whnf
       refine ⟨rfl,?_⟩
       conv => whnf
       refine ⟨.int .u32 (p.seq:Nat),?_⟩
       conv => whnf
       refine ⟨hcl.c1,?_⟩
       conv => whnf
       refine ⟨rfl,?_⟩
       conv => whnf
       refine ⟨.int .u64 (p.gran:Nat),?_⟩
       conv => whnf
       refine ⟨hcl.c2,?_⟩
       conv => whnf
       refine ⟨rfl,?_⟩
       conv => whnf
       refine ⟨.int .i64 p.flags,?_⟩
       conv => whnf
       refine ⟨hcl.c3,?_⟩
       conv => whnf
       refine ⟨rfl,?_⟩
       conv => whnf
       refine ⟨pv,?_⟩
       conv => whnf
       refine ⟨hcl.c4,?_⟩
       conv => whnf
       refine ⟨hcl.one,?_⟩
       conv => whnf
       refine ⟨.bool p.more,?_⟩
       conv => whnf
       refine ⟨hcl.c5,?_⟩
       conv => whnf
       refine ⟨rfl,?_⟩
       conv => whnf
       refine cL0 (pageTextW w0 hcl.str hsan) ?_
       rintro _ _ (⟨hok,rfl,rfl⟩ | ⟨hno,rfl,rfl⟩)
       · conv => whnf
         refine Or.inl ?_
         conv => whnf
         refine ⟨fun g => zF g,fun _ => ?_⟩
         conv => whnf
         have hg := hok.good hsan.ser hsan.seq hsan.gran
         have hps := pgEnc_size hg
         refine ⟨by rw [strOf_siz,strOf_siz]; unfold Pg.wt at hpw hwt; omega,?_⟩
         conv => whnf
         refine ⟨⟨j + 1,g,fun x hx2 => ?_⟩,⟨[],⟨rfl,trivial,rfl⟩,?_,rfl,rfl,eq_i64 (by rw [nadd,nwrapi (by omega)]),trivial⟩,by show xs.length - (j + 1) < xs.length - j; omega⟩
         · rw [List.take_add_one,hx] at hx2
           rcases List.mem_append.1 hx2 with h | h
           · exact hoks x h
           · rw [List.mem_singleton.1 h]
             exact hok
         · show some (AV.o (.c (.val (.string (strOf (encAll ((xs.take j).map Prod.fst)) ++ strOf (pgEnc p)))))) = some (AV.o (.c (.val (.string (strOf (encAll ((xs.take (j + 1)).map Prod.fst)))))))
           rw [htk,← strOf_add]
           unfold encAll
           rw [List.map_append,List.flatten_append,List.map_cons,List.map_nil,List.flatten_singleton]
       · conv => whnf
         refine Or.inl ?_
         conv => whnf
         refine ⟨fun _ => ?_,fun g => zT g⟩
         conv => whnf
         exact Or.inr ⟨[],.t [.c (.val (.string (ByteArray.mk #[]))),.c (.val (.int .i64 ((2:Nat):Int)))],[],⟨rfl,trivial,rfl⟩,rfl,.inr ⟨⟨(p,pv),List.mem_of_getElem? hx,hno⟩,rfl,rfl⟩⟩
     · have g:xs.length ≤ j := lt_f g
       have hall:xs.take j = xs := List.take_of_length_le g
       conv => whnf
       rw [hall]
       exact ⟨⟨by rw [hall] at hoks; exact hoks⟩,[],⟨rfl,trivial,rfl⟩,rfl,trivial⟩
 · conv => whnf
   exact Or.inl (.inl ⟨hok,rfl,rfl⟩)
end Go.Proofs.YtokkphocaloelaaGreatDoor

end
section
namespace Go.Proofs.YtokkphocaloelaaGreatDoor
open Go Go.Vc
open Go.RowKit (Below)
set_option maxRecDepth 100000
set_option maxHeartbeats 8000000

theorem callsA_base2 {P:Program} {w0:World} {f:FuncId} {args:List A1} {H:List Blk} {y z:Value}
   (hcal:(match P.funcs[f]? with | some fn => fn.body.isSome && !(fn.name == "runtime.NumGoroutine") | none => false) = true)
   (h:∀ ρ w vs,RH w0 ρ H w → All2 (A1.R ρ) args vs → ∃ args',All2 (A1.R []) args' vs ∧ CallsA P w f args' [] fun r H' => r = .t [.c (.val y),.c (.val z)] ∧ H' = []) :
   CallsA P w0 f args H fun r H' => r = .t [.c (.val y),.c (.val z)] ∧ H' = H := by
 refine ⟨hcal,fun ρ w vs hR hA => ?_⟩
 obtain ⟨args',hA',hc⟩ := h ρ w vs hR hA
 have h0:RH w [] [] w := ⟨rfl,fun b k e h => by simp at h,fun b b' k k' g h => by simp at h,fun g hg => by obtain ⟨b,k,h,_⟩ := hg; simp at h,Below.refl _ _⟩
 refine (hc.out [] w vs h0 hA').mono ?_
 rintro e w' ⟨r,H',ρ',v,⟨rfl,rfl⟩,rfl,hv,hR',_,hfr,_⟩
 have hb := hR'.base
 have hold:∀ i,i < w.heap.size → w'.heap[i]? = w.heap[i]? := fun i hi => hb.block i hi
 have hv':AV.R ρ (.t [.c (.val y),.c (.val z)]) v := by
   obtain ⟨ys,rfl,hy⟩ := hv
   refine ⟨ys,rfl,?_⟩
   generalize ys.toList = l at hy
   cases hy with
   | cons h1 hy =>
     cases hy with
     | cons h2 hy =>
       cases hy
       exact .cons ⟨h1.1,h1.2⟩ (.cons ⟨h2.1,h2.2⟩ .nil)
 refine ⟨_,H,ρ,v,⟨rfl,rfl⟩,rfl,hv',⟨hR.len,fun b k e hb' he => (hR.ok b k e hb' he).keep fun g hg hl => hold g ((hR.ok b k e hb' he).block hl hg),hR.inj,fun g hg => ⟨(hR.lo g hg).1,Nat.lt_of_lt_of_le (hR.lo g hg).2 hb.size⟩,?_⟩,⟨[],by simp⟩,?_,fun g hg => .inl hg⟩
 · exact ⟨hb.os.trans hR.base.os,hb.tape.trans hR.base.tape,hb.output.trans hR.base.output,Nat.le_trans hR.base.size hb.size,fun k hk => (hold k (Nat.lt_of_lt_of_le hk hR.base.size)).trans (hR.base.block k hk)⟩
 · exact ⟨hb.os,hb.tape,hb.output,hb.size,fun i hi _ => hold i hi⟩
def tagsE:List Int := [79,112,117,115,84,97,103,115] ++ leL 9 4 ++ [99,97,114,114,111,110,97,100,101] ++ leL 0 4
theorem tagsW (w0:World):CallsA Tryz.prog w0 22 [.c (.val (.string (ByteArray.mk #[99,97,114,114,111,110,97,100,101]))),.c (.val (.slice none 0 0))] [] fun r H => r = .o (.c (.val (.string (strOf tagsE)))) ∧ H = [] := by
 refine callsA_of_ev c22_ ?_
 conv => whnf
 have w1:IntKind.u64.wrap (((ByteArray.mk #[99,97,114,114,111,110,97,100,101]).size:Nat):Int) = ((9:Nat):Int) := rfl
 have w2:IntKind.u64.wrap ((0:Nat):Int) = ((0:Nat):Int) := rfl
 have h8:(ByteArray.mk #[79,112,117,115,84,97,103,115]).size = 8 := rfl
 have h9:(ByteArray.mk #[99,97,114,114,111,110,97,100,101]).size = 9 := rfl
 rw [w1]
 refine cL0 (leastW w0 9 (size := 4) (by decide)) ?_
 rintro _ _ ⟨rfl,rfl⟩
 conv => whnf
 refine ⟨by rw [h8,strOf_siz,leL_len]; decide,?_⟩
 conv => whnf
 refine ⟨by rw [ByteArray.size_append,h8,h9,strOf_siz,leL_len]; decide,?_⟩
 conv => whnf
 rw [w2]
 refine cL0 (leastW w0 0 (size := 4) (by decide)) ?_
 rintro _ _ ⟨rfl,rfl⟩
 conv => whnf
 refine ⟨by rw [ByteArray.size_append,ByteArray.size_append,h8,h9,strOf_siz,strOf_siz,leL_len,leL_len]; decide,?_⟩
 conv => whnf
 have ht:ByteArray.mk #[79,112,117,115,84,97,103,115] ++ strOf (leL 9 4) ++ ByteArray.mk #[99,97,114,114,111,110,97,100,101] ++ strOf (leL 0 4) = strOf tagsE := by
   unfold tagsE
   rw [strOf_add,strOf_add,strOf_add]
   rfl
 rw [ht]
 refine Or.inl ?_
 conv => whnf
 refine ⟨Unit,fun _ => ⟨[(5,.o (.c (.val (.string (strOf tagsE))))),(21,.o (.c (.val (.int .i64 ((0:Nat):Int))))),(22,.o (.c (.val (.int .i64 ((0:Nat):Int)))))],[]⟩,fun _ => 0,⟨(),[],⟨rfl,trivial,rfl⟩,rfl,rfl,rfl,trivial⟩,fun _ => ?_⟩
 conv => whnf
 refine ⟨fun g => zF g,fun _ => ?_⟩
 conv => whnf
 exact Or.inl ⟨rfl,rfl⟩
def hdPg (s:ByteArray):Pg := ⟨1,0,0,2,[s],false⟩
def tgPg (t:ByteArray):Pg := ⟨1,1,0,0,[t],false⟩
theorem ok_one {p:Pg} {s:ByteArray} (h1:p.parts = [s]) (h2:p.more = false) (h3:s.size ≤ 60000) (h4:0 ≤ p.flags ∧ p.flags ≤ 7):p.okW := by
 refine ⟨fun h => Bool.noConfusion (h.1.symm.trans h2),?_,fun h => Bool.noConfusion (h.symm.trans h2),h4.1,h4.2⟩
 have hl:(bytesOf s).length = s.size := bytesOf_len s
 have e1:p.segs = lc (bytesOf s) ++ [lr (bytesOf s)] := by
   unfold Pg.segs Pg.pts
   rw [h1,h2]
   show lc (bytesOf s) ++ (if [] = [] ∧ false = true then [] else [lr (bytesOf s)]) ++ [] = _
   rw [if_neg (fun c => Bool.noConfusion c.2),List.append_nil]
 have h2:(lc (bytesOf s)).length = (bytesOf s).length / 255 := by
   have := congrArg List.length (lenI_lc (bytesOf s))
   unfold lenI at this
   rw [List.length_map,List.length_replicate] at this
   exact this
 rw [e1,List.length_append,h2,List.length_singleton,hl]
 omega
theorem all2_cons {α β:Type} {R:α → β → Prop} {a:α} {l:List α} {m:List β} (h:All2 R (a :: l) m):∃ b m',m = b :: m' ∧ R a b ∧ All2 R l m' := by
 cases h with
 | cons h1 h2 => exact ⟨_,_,rfl,h1,h2⟩
def twoPg:List CV := [.val (.int .u32 ((1:Nat):Int)),.val (.int .u32 ((0:Nat):Int)),.val (.int .u64 ((0:Nat):Int)),.val (.int .i64 ((2:Nat):Int)),.sli 1 1 0 1 1,.val (.bool false),.val (.int .u32 ((1:Nat):Int)),.val (.int .u32 ((1:Nat):Int)),.val (.int .u64 ((0:Nat):Int)),.val (.int .i64 ((0:Nat):Int)),.sli 2 1 0 1 1,.val (.bool false)]
theorem own_str {w0:World} {ρ:Ren} {H:List Blk} {w:World} (hR:RH w0 ρ H w) {b:Nat} {T:TypeId} {s:ByteArray} (hb:H[b]? = some (.cells T [.val (.string s)])) {v:Value} (hv:(CV.sli b 1 0 1 1).R ρ v):strsAt w v [s] ∧ v.oneCell' = true := by
 obtain ⟨e,hρ,g,arr,k1,k2,k3⟩ := hR.get hb
 obtain ⟨g',hg,rfl,_⟩ := hv
 have hgg:g' = g := by
   rw [at_of_get hρ,k1] at hg
   exact (Option.some.inj hg).symm
 subst hgg
 obtain ⟨x,r,hx,h0,_⟩ := all2_cons k3
 refine ⟨.inr ⟨_,1,rfl,Nat.le_refl _,fun i s' hi => ?_⟩,rfl⟩
 match i,hi with
 | 0,hi =>
   cases hi
   show w.cell? ⟨g',_,none⟩ = _
   rw [cell_at k2,← Array.getElem?_toList,hx]
   exact congrArg some h0.1
 | i + 1,hi => simp at hi
theorem own_pages {w0:World} {ρ:Ren} {H:List Blk} {w:World} (hR:RH w0 ρ H w) {T1 T2 T3:TypeId} {s t:ByteArray} (h1:H[1]? = some (.cells T1 [.val (.string s)])) (h2:H[2]? = some (.cells T2 [.val (.string t)])) (h3:H[3]? = some (.cells T3 twoPg)) {v:Value} (hv:(CV.sli 3 6 0 2 2).R ρ v) :
   ∃ v1 v2,pgsAt w v [(hdPg s,v1),(tgPg t,v2)] ∧ v.oneCell' = true := by
 obtain ⟨e,hρ,g,arr,k1,k2,k3⟩ := hR.get h3
 obtain ⟨g',hg,rfl,_⟩ := hv
 have hgg:g' = g := by
   rw [at_of_get hρ,k1] at hg
   exact (Option.some.inj hg).symm
 subst hgg
 unfold twoPg at k3
 obtain ⟨x0,r0,e0,q0,k3⟩ := all2_cons k3
 obtain ⟨x1,r1,e1,q1,k3⟩ := all2_cons k3
 obtain ⟨x2,r2,e2,q2,k3⟩ := all2_cons k3
 obtain ⟨x3,r3,e3,q3,k3⟩ := all2_cons k3
 obtain ⟨x4,r4,e4,q4,k3⟩ := all2_cons k3
 obtain ⟨x5,r5,e5,q5,k3⟩ := all2_cons k3
 obtain ⟨y0,r6,e6,p0,k3⟩ := all2_cons k3
 obtain ⟨y1,r7,e7,p1,k3⟩ := all2_cons k3
 obtain ⟨y2,r8,e8,p2,k3⟩ := all2_cons k3
 obtain ⟨y3,r9,e9,p3,k3⟩ := all2_cons k3
 obtain ⟨y4,r10,e10,p4,k3⟩ := all2_cons k3
 obtain ⟨y5,r11,e11,p5,k3⟩ := all2_cons k3
 have harr:arr.toList = [x0,x1,x2,x3,x4,x5,y0,y1,y2,y3,y4,y5] ++ r11 := by rw [e0,e1,e2,e3,e4,e5,e6,e7,e8,e9,e10,e11]; rfl
 have hat:∀ (k:Nat) x,([x0,x1,x2,x3,x4,x5,y0,y1,y2,y3,y4,y5] ++ r11)[k]? = some x → w.cell? ⟨g',k,none⟩ = some x := fun k x hk => by rw [cell_at k2,← Array.getElem?_toList,harr,hk]
 obtain ⟨s1,o1⟩ := own_str hR h1 q4
 obtain ⟨s2,o2⟩ := own_str hR h2 p4
 refine ⟨x4,y4,.inr ⟨_,2,rfl,Nat.le_refl _,fun i x hi => ?_⟩,rfl⟩
 match i,hi with
 | 0,hi =>
   cases hi
   exact ⟨hat 0 _ (congrArg some q0.1),hat 1 _ (congrArg some q1.1),hat 2 _ (congrArg some q2.1),hat 3 _ (congrArg some q3.1),hat 4 _ rfl,hat 5 _ (congrArg some q5.1),o1,s1,⟨show 1 < 4294967296 by decide,show 0 < 4294967296 by decide,show 0 < 18446744073709551616 by decide,show (-9223372036854775808:Int) ≤ 2 by decide,show (2:Int) < 9223372036854775808 by decide⟩⟩
 | 1,hi =>
   cases hi
   exact ⟨hat 6 _ (congrArg some p0.1),hat 7 _ (congrArg some p1.1),hat 8 _ (congrArg some p2.1),hat 9 _ (congrArg some p3.1),hat 10 _ rfl,hat 11 _ (congrArg some p5.1),o2,s2,⟨show 1 < 4294967296 by decide,show 1 < 4294967296 by decide,show 0 < 18446744073709551616 by decide,show (-9223372036854775808:Int) ≤ 0 by decide,show (0:Int) < 9223372036854775808 by decide⟩⟩
 | i + 2,hi => simp at hi
theorem Hd.text_size {h:Hd} (h1:h.text.2 = 1):h.text.1.size ≤ 276 := by
 have hf:h.fix.length = 19 := by
   unfold Hd.fix opusHead
   simp only [List.length_append,leL_len,List.length_cons,List.length_nil]
 unfold Hd.text at h1 ⊢
 by_cases c1:h.bad
 · rw [if_pos c1] at h1
   exact absurd h1 (by decide)
 rw [if_neg c1] at h1 ⊢
 by_cases c2:h.map = 0
 · rw [if_pos c2] at h1 ⊢
   show (strOf h.fix).size ≤ 276
   rw [strOf_siz,hf]
   decide
 rw [if_neg c2] at h1 ⊢
 by_cases c3:h.bad2
 · rw [if_pos c3] at h1
   exact absurd h1 (by decide)
 rw [if_neg c3] at h1 ⊢
 show (strOf (h.fix ++ [h.str,h.cou]) ++ h.mapping).size ≤ 276
 rw [ByteArray.size_append,strOf_siz,List.length_append,hf]
 unfold Hd.bad at c1
 unfold Hd.bad2 at c3
 simp only [List.length_cons,List.length_nil]
 omega
def tagsS:ByteArray := strOf tagsE
def Hd.pages (h:Hd):List Pg := [hdPg h.text.1,tgPg tagsS]
theorem headWriteW (w0:World) (h:Hd) (hr:h.rate < 4294967296) (hi:∀ x ∈ [h.ver,h.ch,h.map,h.skip,h.gain,h.str,h.cou],-9223372036854775808 ≤ x ∧ x < 9223372036854775808) (hm:h.mapping.size ≤ 2147483647)
   {ma:Option Addr} {mn mc:Nat}:CallsA Tryz.prog w0 25 [.a (h.cells (.slice ma mn mc))] [] fun r H =>
     (mn = 0 ∧ h.text.2 = 1 ∧ r = .t [.c (.val (.string (strOf (encAll h.pages)))),.c (.val (.int .i64 ((1:Nat):Int)))] ∧ H = []) ∨
     (r = .t [.c (.val (.string (ByteArray.mk #[]))),.c (.val (.int .i64 ((2:Nat):Int)))] ∧ H = []) := by
 have ht := headTextW w0 h hr hi hm (ma := ma) (mn := mn) (mc := mc)
 refine callsA_of_ev c25_ ?_
 conv => whnf
 refine cL0 ht ?_
 rintro _ _ ⟨rfl,rfl⟩
 conv => whnf
 refine Or.inl ?_
 conv => whnf
 refine ⟨fun g => ?_,fun g => ?_⟩
 · conv => whnf
   exact Or.inr ⟨[],.t [.c (.val (.string (ByteArray.mk #[]))),.c (.val (.int .i64 ((2:Nat):Int)))],[],⟨rfl,trivial,rfl⟩,rfl,.inr ⟨rfl,rfl⟩⟩
 have g:(h.textM mn).2 = 1 := of_bne_f (b := 1) g
 have hmn:mn = 0 := by
   unfold Hd.textM at g
   by_cases c:0 < mn
   · rw [if_pos c] at g
     exact absurd g (by decide)
   · omega
 subst hmn
 have hT:h.textM 0 = h.text := if_neg (Nat.lt_irrefl _)
 rw [hT] at g ⊢
 have hsz := Hd.text_size g
 conv => whnf
 refine cL0 (tagsW w0) ?_
 rintro _ _ ⟨rfl,rfl⟩
 conv => whnf
 have hts:tagsS.size = 25 := by unfold tagsS; rw [strOf_siz]; rfl
 have hok:∀ x ∈ [(hdPg h.text.1,(Value.bool false)),(tgPg tagsS,(Value.bool false))],x.1.okW := by
   intro x hx
   simp only [List.mem_cons,List.not_mem_nil,or_false] at hx
   rcases hx with rfl | rfl
   · exact ok_one (s := h.text.1) rfl rfl (by omega) ⟨show (0:Int) ≤ 2 by decide,show (2:Int) ≤ 7 by decide⟩
   · exact ok_one (s := tagsS) rfl rfl (by omega) ⟨show (0:Int) ≤ 0 by decide,show (0:Int) ≤ 7 by decide⟩
 have hcal := (oggWriteW w0 (v := .slice none 0 0) (xs := []) (.inl ⟨rfl,rfl⟩) (by decide)).cal
 refine (callsA_base2 (y := .string (strOf (encAll h.pages))) (z := .int .i64 ((1:Nat):Int)) hcal fun ρ w vs hR hA => ?_).mono ?_
 · cases hA with
   | cons hv hA =>
     cases hA
     obtain ⟨v1,v2,hpg,hone⟩ := own_pages (s := h.text.1) (t := tagsS) hR rfl rfl rfl hv
     refine ⟨[.c (.val _)],.cons ⟨rfl,hone⟩ .nil,(oggWriteW w hpg ?_).mono ?_⟩
     · show 27 + 1 + (h.text.1.size + 0) + (27 + 1 + (tagsS.size + 0) + 0) ≤ _
       omega
     · rintro _ _ (⟨_,rfl,rfl⟩ | ⟨⟨x,hx,hno⟩,_,_⟩)
       · exact ⟨rfl,rfl⟩
       · simp only [List.mem_cons,List.not_mem_nil,or_false] at hx
         rcases hx with rfl | rfl
         · exact absurd (hok _ (List.mem_cons_self ..)) hno
         · exact absurd (hok _ (List.mem_cons_of_mem _ (List.mem_cons_self ..))) hno
 · rintro _ _ ⟨rfl,rfl⟩
   conv => whnf
   exact Or.inr ⟨[],.t [.c (.val (.string (strOf (encAll h.pages)))),.c (.val (.int .i64 ((1:Nat):Int)))],[],⟨rfl,trivial,rfl⟩,rfl,.inl ⟨rfl,g,rfl,rfl⟩⟩
end Go.Proofs.YtokkphocaloelaaGreatDoor

end
section
namespace Go.Proofs.YtokkphocaloelaaGreatDoor
open Go Go.Vc
set_option maxRecDepth 100000
set_option maxHeartbeats 8000000

theorem zz6W (w0:World) {v:Value} {ss:List ByteArray} (h:strsAt w0 v ss):CallsA Tryz.prog w0 50 [.c (.val v)] [] fun r H => (∃ t,r = .o (.c (.val (.bool t)))) ∧ H = [] := by
 rcases h with ⟨rfl,rfl⟩ | ⟨a,c,rfl,hc,hb⟩
 · refine callsA_of_ev c50_ ?_
   conv => whnf
   refine Or.inl ?_
   conv => whnf
   refine ⟨fun g => absurd (gt_t (a := 0) (b := 2147483647) g) (by decide),fun _ => ?_⟩
   conv => whnf
   refine Or.inl ?_
   conv => whnf
   refine ⟨Unit,fun _ => ⟨[(9,.o (.c (.val (.int .i64 ((0:Nat):Int))))),(10,.o (.c (.val (.int .i64 ((0:Nat):Int)))))],[]⟩,fun _ => 0,⟨(),[],⟨rfl,trivial,rfl⟩,rfl,rfl,trivial⟩,fun _ => ?_⟩
   conv => whnf
   refine ⟨fun g => zF g,fun _ => ?_⟩
   conv => whnf
   exact Or.inl ⟨⟨_,rfl⟩,rfl⟩
 · refine callsA_of_ev c50_ ?_
   conv => whnf
   refine Or.inl ?_
   conv => whnf
   refine ⟨fun g0 => ?_,fun g0 => ?_⟩
   · conv => whnf
     exact Or.inl ⟨⟨_,rfl⟩,rfl⟩
   have g0:ss.length ≤ 2147483647 := gt_f g0
   conv => whnf
   refine Or.inl ?_
   conv => whnf
   refine ⟨{j:Nat // j ≤ ss.length},fun ⟨j,_⟩ => ⟨[(8,.o (.c (.val (.slice (some a) ss.length c)))),(9,.o (.c (.val (.int .i64 (ss.length:Nat))))),(10,.o (.c (.val (.int .i64 (j:Nat)))))],[]⟩,fun j => ss.length - j.1,⟨⟨0,Nat.zero_le _⟩,[],⟨rfl,trivial,rfl⟩,rfl,rfl,rfl,trivial⟩,fun ⟨j,hj⟩ => ?_⟩
   conv => whnf
   refine ⟨fun g => ?_,fun g => ?_⟩
   · have g:j < ss.length := lt_t g
     obtain ⟨s,hs⟩:∃ s,ss[j]? = some s := ⟨_,List.getElem?_eq_getElem g⟩
     conv => whnf
     refine Or.inl ?_
     conv => whnf
     refine ⟨⟨Int.natCast_nonneg j,Int.ofNat_lt.2 g⟩,?_⟩
     conv => whnf
     refine ⟨.string s,?_⟩
     conv => whnf
     refine ⟨hb j s hs,?_⟩
     conv => whnf
     refine ⟨rfl,?_⟩
     conv => whnf
     refine ⟨fun g1 => ?_,fun g1 => ?_⟩
     · conv => whnf
       exact Or.inl ⟨⟨_,rfl⟩,rfl⟩
     · conv => whnf
       exact ⟨⟨j + 1,g⟩,⟨[],⟨rfl,trivial,rfl⟩,rfl,rfl,eq_i64 (by rw [nadd,nwrapi (by omega)]),trivial⟩,by show ss.length - (j + 1) < ss.length - j; omega⟩
   · conv => whnf
     exact Or.inl ⟨⟨_,rfl⟩,rfl⟩
theorem zz9W (w0:World) {p:Pg} {v:Value} (h:strsAt w0 v p.parts):CallsA Tryz.prog w0 24 [.a (pgA p v)] [] fun r H => (∃ t,r = .o (.c (.val (.bool t)))) ∧ H = [] := by
 refine callsA_of_ev c24_ ?_
 conv => whnf
 refine Or.inl ?_
 conv => whnf
 refine cL0 (zz6W w0 h) ?_
 rintro _ _ ⟨⟨t,rfl⟩,rfl⟩
 conv => whnf
 refine ⟨fun g => ?_,fun g => ?_⟩
 · conv => whnf
   exact Or.inr ⟨[],.o (.c (.val (.bool false))),[],⟨rfl,trivial,rfl⟩,rfl,⟨_,rfl⟩,rfl⟩
 · conv => whnf
   exact Or.inr ⟨[],.o (.c (.val (.bool true))),[],⟨rfl,trivial,rfl⟩,rfl,⟨_,rfl⟩,rfl⟩
theorem zz8W (w0:World) {v:Value} {xs:List (Pg × Value)} (hv:pgsAt w0 v xs):CallsA Tryz.prog w0 9 [.c (.val v)] [] fun r H => (∃ t,r = .o (.c (.val (.bool t)))) ∧ H = [] := by
 rcases hv with ⟨rfl,rfl⟩ | ⟨a,c,rfl,hc,hb⟩
 · refine callsA_of_ev c9_ ?_
   conv => whnf
   refine Or.inl ?_
   conv => whnf
   refine ⟨fun g => absurd (gt_t (a := 0) (b := 2147483647) g) (by decide),fun _ => ?_⟩
   conv => whnf
   refine Or.inl ?_
   conv => whnf
   refine ⟨Unit,fun _ => ⟨[(9,.o (.c (.val (.int .i64 ((0:Nat):Int))))),(10,.o (.c (.val (.int .i64 ((0:Nat):Int)))))],[]⟩,fun _ => 0,⟨(),[],⟨rfl,trivial,rfl⟩,rfl,rfl,trivial⟩,fun _ => ?_⟩
   conv => whnf
   refine ⟨fun g => zF g,fun _ => ?_⟩
   conv => whnf
   exact Or.inl ⟨⟨_,rfl⟩,rfl⟩
 · refine callsA_of_ev c9_ ?_
   conv => whnf
   refine Or.inl ?_
   conv => whnf
   refine ⟨fun g0 => ?_,fun g0 => ?_⟩
   · conv => whnf
     exact Or.inl ⟨⟨_,rfl⟩,rfl⟩
   have g0:xs.length ≤ 2147483647 := gt_f g0
   conv => whnf
   refine Or.inr ⟨Unit,fun _ => ⟨[],[]⟩,?_,fun _ => ?_⟩
   · conv => whnf
     refine ⟨{j:Nat // j ≤ xs.length},fun ⟨j,_⟩ => ⟨[(8,.o (.c (.val (.slice (some a) xs.length c)))),(9,.o (.c (.val (.int .i64 (xs.length:Nat))))),(10,.o (.c (.val (.int .i64 (j:Nat)))))],[]⟩,fun j => xs.length - j.1,⟨⟨0,Nat.zero_le _⟩,[],⟨rfl,trivial,rfl⟩,rfl,rfl,rfl,trivial⟩,fun ⟨j,hj⟩ => ?_⟩
     conv => whnf
     refine ⟨fun g => ?_,fun g => ?_⟩
     · have g:j < xs.length := lt_t g
       obtain ⟨⟨p,pv⟩,hx⟩:∃ x,xs[j]? = some x := ⟨_,List.getElem?_eq_getElem g⟩
       have hcl := hb j _ hx
       simp only at hcl
       conv => whnf
       refine Or.inl ?_
       conv => whnf
       refine ⟨⟨Int.natCast_nonneg j,Int.ofNat_lt.2 g⟩,?_⟩
       conv => whnf
       refine ⟨.int .u32 (p.ser:Nat),?_⟩
       conv => whnf
       refine ⟨hcl.c0,?_⟩
       conv => whnf
       refine ⟨rfl,?_⟩
       conv => whnf
       refine ⟨.int .u32 (p.seq:Nat),?_⟩
       conv => whnf
       refine ⟨hcl.c1,?_⟩
       conv => whnf
       refine ⟨rfl,?_⟩
       conv => whnf
       refine ⟨.int .u64 (p.gran:Nat),?_⟩
       conv => whnf
       refine ⟨hcl.c2,?_⟩
       conv => whnf
       refine ⟨rfl,?_⟩
       conv => whnf
       refine ⟨.int .i64 p.flags,?_⟩
       conv => whnf
       refine ⟨hcl.c3,?_⟩
       conv => whnf
       refine ⟨rfl,?_⟩
       conv => whnf
       refine ⟨pv,?_⟩
       conv => whnf
       refine ⟨hcl.c4,?_⟩
       conv => whnf
       refine ⟨hcl.one,?_⟩
       conv => whnf
       refine ⟨.bool p.more,?_⟩
       conv => whnf
       refine ⟨hcl.c5,?_⟩
       conv => whnf
       refine ⟨rfl,?_⟩
       conv => whnf
       refine cL0 (zz9W w0 hcl.str) ?_
       rintro _ _ ⟨⟨t,rfl⟩,rfl⟩
       conv => whnf
       refine ⟨fun g1 => ?_,fun g1 => ?_⟩
       · conv => whnf
         exact Or.inr ⟨[],.o (.c (.val (.bool false))),[],⟨rfl,trivial,rfl⟩,rfl,⟨_,rfl⟩,rfl⟩
       · conv => whnf
         exact ⟨⟨j + 1,g⟩,⟨[],⟨rfl,trivial,rfl⟩,rfl,rfl,eq_i64 (by rw [nadd,nwrapi (by omega)]),trivial⟩,by show xs.length - (j + 1) < xs.length - j; omega⟩
     · conv => whnf
       exact ⟨(),[],⟨rfl,trivial,rfl⟩,trivial⟩
   conv => whnf
   exact Or.inl ⟨⟨_,rfl⟩,rfl⟩
theorem zz7W (w0:World) (h:Hd) {ma:Option Addr} {mn mc:Nat}:CallsA Tryz.prog w0 8 [.a (h.cells (.slice ma mn mc))] [] fun r H => (∃ t,r = .o (.c (.val (.bool t))) ∧ (t = true → h.mapping.size ≤ 2147483647)) ∧ H = [] := by
 refine callsA_of_ev c8_ ?_
 conv => whnf
 refine Or.inl ?_
 conv => whnf
 refine ⟨fun g => ?_,fun g => ?_⟩
 · conv => whnf
   exact Or.inr ⟨[],.o (.c (.val (.bool false))),[],⟨rfl,trivial,rfl⟩,rfl,⟨_,rfl,fun h => Bool.noConfusion h⟩,rfl⟩
 have g:h.mapping.size ≤ 2147483647 := gt_f g
 conv => whnf
 refine Or.inl ?_
 conv => whnf
 refine ⟨fun g1 => ?_,fun g1 => ?_⟩
 · conv => whnf
   exact Or.inr ⟨[],.o (.c (.val (.bool false))),[],⟨rfl,trivial,rfl⟩,rfl,⟨_,rfl,fun h => Bool.noConfusion h⟩,rfl⟩
 · conv => whnf
   exact Or.inr ⟨[],.o (.c (.val (.bool true))),[],⟨rfl,trivial,rfl⟩,rfl,⟨_,rfl,fun _ => g⟩,rfl⟩
structure StrOk (h:Hd) (xs:List (Pg × Value)):Prop where
 hd:h.text.2 = 1
 ok:∀ x ∈ xs,x.1.okW
 len:xs.length ≤ 20
 siz:(encAll (xs.map Prod.fst)).length ≤ 20000
theorem lStreamM (w0:World) (h:Hd) (hr:h.rate < 4294967296) (hi:∀ x ∈ [h.ver,h.ch,h.map,h.skip,h.gain,h.str,h.cou],-9223372036854775808 ≤ x ∧ x < 9223372036854775808) (hm:h.mapping.size ≤ 2147483647)
   {ma:Option Addr} {mn mc:Nat} {v:Value} {xs:List (Pg × Value)} (hv:pgsAt w0 v xs) (hw:wtx xs ≤ 1073741824) :
   CallsA Tryz.prog w0 10 [.a (h.cells (.slice ma mn mc)),.c (.val v)] [] fun r H =>
     (mn = 0 ∧ StrOk h xs ∧ r = .t [.c (.val (.string (strOf (encAll h.pages)))),.c (.val (.string (strOf (encAll (xs.map Prod.fst))))),.c (.val (.bool true))] ∧ H = []) ∨
     ((∃ a b,r = .t [.c (.val (.string a)),.c (.val (.string b)),.c (.val (.bool false))]) ∧ H = []) := by
 have hlen := wts_len (xs.map Prod.fst)
 rw [List.length_map] at hlen
 have hw2:wts (xs.map Prod.fst) ≤ 1073741824 := hw
 refine callsA_of_ev c10_ ?_
 conv => whnf
 refine Or.inr ⟨Unit,fun _ => ⟨[(1,.o (.c (.val v))),(2,.o (.c (.ptr 0 0)))],[.cells 25 (h.cells (.slice ma mn mc))]⟩,?_,fun _ => ?_⟩
 · rcases hv with ⟨rfl,rfl⟩ | ⟨a,c,rfl,hc,hb⟩
   · conv => whnf
     refine ⟨Unit,fun _ => ⟨[(1,.o (.c (.val (.slice none 0 0)))),(2,.o (.c (.ptr 0 0))),(12,.o (.c (.val (.int .i64 ((0:Nat):Int))))),(13,.o (.c (.val (.int .i64 ((0:Nat):Int)))))],[.cells 25 (h.cells (.slice ma mn mc))]⟩,fun _ => 0,⟨(),[0],⟨rfl,⟨rfl,rfl,trivial⟩,rfl⟩,rfl,rfl,rfl,rfl,trivial⟩,fun _ => ?_⟩
     conv => whnf
     refine ⟨fun g => zF g,fun _ => ?_⟩
     conv => whnf
     exact ⟨(),[0],⟨rfl,⟨rfl,rfl,trivial⟩,rfl⟩,rfl,rfl,trivial⟩
   · conv => whnf
     refine ⟨{j:Nat // j ≤ xs.length},fun ⟨j,_⟩ => ⟨[(1,.o (.c (.val (.slice (some a) xs.length c)))),(2,.o (.c (.ptr 0 0))),(11,.o (.c (.val (.slice (some a) xs.length c)))),(12,.o (.c (.val (.int .i64 (xs.length:Nat))))),(13,.o (.c (.val (.int .i64 (j:Nat)))))],[.cells 25 (h.cells (.slice ma mn mc))]⟩,fun j => xs.length - j.1,⟨⟨0,Nat.zero_le _⟩,[0],⟨rfl,⟨rfl,rfl,trivial⟩,rfl⟩,rfl,rfl,rfl,rfl,rfl,trivial⟩,fun ⟨j,hj⟩ => ?_⟩
     conv => whnf
     refine ⟨fun g => ?_,fun g => ?_⟩
     · have g:j < xs.length := lt_t g
       obtain ⟨⟨p,pv⟩,hx⟩:∃ x,xs[j]? = some x := ⟨_,List.getElem?_eq_getElem g⟩
       have hcl := hb j _ hx
       simp only at hcl
       conv => whnf
       refine Or.inl ?_
       conv => whnf
       refine ⟨⟨Int.natCast_nonneg j,Int.ofNat_lt.2 g⟩,?_⟩
       conv => whnf
       refine ⟨.int .u32 (p.ser:Nat),?_⟩
       conv => whnf
       refine ⟨hcl.c0,?_⟩
       conv => whnf
       refine ⟨rfl,?_⟩
       conv => whnf
       refine ⟨.int .u32 (p.seq:Nat),?_⟩
       conv => whnf
       refine ⟨hcl.c1,?_⟩
       conv => whnf
       refine ⟨rfl,?_⟩
       conv => whnf
       refine ⟨.int .u64 (p.gran:Nat),?_⟩
       conv => whnf
       refine ⟨hcl.c2,?_⟩
       conv => whnf
       refine ⟨rfl,?_⟩
       conv => whnf
       refine ⟨.int .i64 p.flags,?_⟩
       conv => whnf
       refine ⟨hcl.c3,?_⟩
       conv => whnf
       refine ⟨rfl,?_⟩
       conv => whnf
       refine ⟨pv,?_⟩
       conv => whnf
       refine ⟨hcl.c4,?_⟩
       conv => whnf
       refine ⟨hcl.one,?_⟩
       conv => whnf
       refine ⟨.bool p.more,?_⟩
       conv => whnf
       refine ⟨hcl.c5,?_⟩
       conv => whnf
       refine ⟨rfl,?_⟩
       conv => whnf
       refine ⟨fun g1 => ?_,fun g1 => ?_⟩
       · conv => whnf
         exact Or.inr ⟨[],.t [.c (.val (.string (ByteArray.mk #[]))),.c (.val (.string (ByteArray.mk #[]))),.c (.val (.bool false))],[],⟨rfl,trivial,rfl⟩,rfl,.inr ⟨⟨_,_,rfl⟩,rfl⟩⟩
       · conv => whnf
         exact ⟨⟨j + 1,g⟩,⟨[0],⟨rfl,⟨rfl,rfl,trivial⟩,rfl⟩,rfl,rfl,rfl,rfl,eq_i64 (by rw [nadd,nwrapi (by omega)]),trivial⟩,by show xs.length - (j + 1) < xs.length - j; omega⟩
     · conv => whnf
       exact ⟨(),[0],⟨rfl,⟨rfl,rfl,trivial⟩,rfl⟩,rfl,rfl,trivial⟩
 have hln:∃ a c,v = .slice a xs.length c := by
   rcases hv with ⟨rfl,rfl⟩ | ⟨a,c,rfl,_⟩
   · exact ⟨none,0,rfl⟩
   · exact ⟨_,_,rfl⟩
 obtain ⟨sa,sc,rfl⟩ := hln
 conv => whnf
 refine cL0 (headWriteW w0 h hr hi hm) ?_
 rintro _ _ (⟨rfl,ht,rfl,rfl⟩ | ⟨rfl,rfl⟩)
 · conv => whnf
   refine cL0 (oggWriteW w0 hv hw) ?_
   rintro _ _ (⟨hok,rfl,rfl⟩ | ⟨hno,rfl,rfl⟩)
   · conv => whnf
     refine ⟨fun _ => ?_,fun g => zT g⟩
     conv => whnf
     refine ⟨fun _ => ?_,fun g => zT g⟩
     conv => whnf
     refine ⟨fun g => ?_,fun g => ?_⟩
     · have g:xs.length ≤ 20 := le_t g
       conv => whnf
       by_cases hs:(encAll (xs.map Prod.fst)).length ≤ 20000
       · have hd:decide ((((strOf (encAll (xs.map Prod.fst))).size:Nat):Int) ≤ ((20000:Nat):Int)) = true := by
           rw [strOf_siz]
           exact decide_eq_true (by omega)
         rw [hd]
         exact Or.inr ⟨[],.t [.c (.val (.string (strOf (encAll h.pages)))),.c (.val (.string (strOf (encAll (xs.map Prod.fst))))),.c (.val (.bool true))],[],⟨rfl,trivial,rfl⟩,rfl,.inl ⟨rfl,⟨ht,hok,g,hs⟩,rfl,rfl⟩⟩
       · have hd:decide ((((strOf (encAll (xs.map Prod.fst))).size:Nat):Int) ≤ ((20000:Nat):Int)) = false := by
           rw [strOf_siz]
           exact decide_eq_false (by omega)
         rw [hd]
         exact Or.inr ⟨[],.t [.c (.val (.string (strOf (encAll h.pages)))),.c (.val (.string (strOf (encAll (xs.map Prod.fst))))),.c (.val (.bool false))],[],⟨rfl,trivial,rfl⟩,rfl,.inr ⟨⟨_,_,rfl⟩,rfl⟩⟩
     · conv => whnf
       exact Or.inr ⟨[],.t [.c (.val (.string (strOf (encAll h.pages)))),.c (.val (.string (strOf (encAll (xs.map Prod.fst))))),.c (.val (.bool false))],[],⟨rfl,trivial,rfl⟩,rfl,.inr ⟨⟨_,_,rfl⟩,rfl⟩⟩
   · conv => whnf
     refine ⟨fun _ => ?_,fun g => zT g⟩
     conv => whnf
     refine ⟨fun g => zF g,fun _ => ?_⟩
     conv => whnf
     exact Or.inr ⟨[],.t [.c (.val (.string (strOf (encAll h.pages)))),.c (.val (.string (ByteArray.mk #[]))),.c (.val (.bool false))],[],⟨rfl,trivial,rfl⟩,rfl,.inr ⟨⟨_,_,rfl⟩,rfl⟩⟩
 · conv => whnf
   refine cL0 (oggWriteW w0 hv hw) ?_
   rintro _ _ (⟨hok,rfl,rfl⟩ | ⟨hno,rfl,rfl⟩)
   · conv => whnf
     refine ⟨fun g => zF g,fun _ => ?_⟩
     conv => whnf
     exact Or.inr ⟨[],.t [.c (.val (.string (ByteArray.mk #[]))),.c (.val (.string (strOf (encAll (xs.map Prod.fst))))),.c (.val (.bool false))],[],⟨rfl,trivial,rfl⟩,rfl,.inr ⟨⟨_,_,rfl⟩,rfl⟩⟩
   · conv => whnf
     refine ⟨fun g => zF g,fun _ => ?_⟩
     conv => whnf
     exact Or.inr ⟨[],.t [.c (.val (.string (ByteArray.mk #[]))),.c (.val (.string (ByteArray.mk #[]))),.c (.val (.bool false))],[],⟨rfl,trivial,rfl⟩,rfl,.inr ⟨⟨_,_,rfl⟩,rfl⟩⟩
theorem lStreamW (w0:World) (h:Hd) (hr:h.rate < 4294967296) (hi:∀ x ∈ [h.ver,h.ch,h.map,h.skip,h.gain,h.str,h.cou],-9223372036854775808 ≤ x ∧ x < 9223372036854775808) (hm:h.mapping.size ≤ 2147483647)
   {ma:Option Addr} {mn mc:Nat} {v:Value} {xs:List (Pg × Value)} (hv:pgsAt w0 v xs) (hw:wtx xs ≤ 1073741824) :
   CallsA Tryz.prog w0 10 [.a (h.cells (.slice ma mn mc)),.c (.val v)] [] fun r H =>
     (StrOk h xs ∧ r = .t [.c (.val (.string (strOf (encAll h.pages)))),.c (.val (.string (strOf (encAll (xs.map Prod.fst))))),.c (.val (.bool true))] ∧ H = []) ∨
     ((∃ a b,r = .t [.c (.val (.string a)),.c (.val (.string b)),.c (.val (.bool false))]) ∧ H = []) := by
 refine (lStreamM w0 h hr hi hm hv hw).mono ?_
 rintro _ _ (⟨_,h1,h2,h3⟩ | h1)
 · exact .inl ⟨h1,h2,h3⟩
 · exact .inr h1
end Go.Proofs.YtokkphocaloelaaGreatDoor

end
section
namespace Go.Proofs.YtokkphocaloelaaGreatDoor
open Go Go.Vc
set_option maxRecDepth 100000
set_option maxHeartbeats 8000000

def strsL (l:List (List Int)):List ByteArray := l.map strOf
theorem full_get:∀ (n:Nat) (x:List Int) (j:Nat),j < n → (full n x)[j]? = some ((x.drop (255 * j)).take 255)
 | 0,_,_,h => absurd h (Nat.not_lt_zero _)
 | n + 1,x,0,_ => rfl
 | n + 1,x,j + 1,h => by
   rw [full,List.getElem?_cons_succ,full_get n (x.drop 255) j (by omega),List.drop_drop,show 255 + 255 * j = 255 * (j + 1) by omega]
theorem lc_get {x:List Int} {j:Nat} (h:j < x.length / 255):(lc x)[j]? = some ((x.drop (255 * j)).take 255) := full_get _ x j h
end Go.Proofs.YtokkphocaloelaaGreatDoor

end
section
namespace Go.Proofs.YtokkphocaloelaaGreatDoor
open Go Go.Vc
set_option maxRecDepth 100000
set_option maxHeartbeats 8000000

theorem neq_self (s:ByteArray):(!(s.toList == s.toList)) = false := by rw [beq_self_eq_true]; rfl
theorem neq_nat (n:Nat):(((n:Nat):Int) != ((n:Nat):Int)) = false := by simp
theorem sameN (w0:World):CallsA Tryz.prog w0 13 [.c (.val (.slice none 0 0)),.c (.val (.slice none 0 0))] [] fun r H => r = .o (.c (.val (.bool true))) ∧ H = [] := by
 refine callsA_of_ev c13_ ?_
 conv => whnf
 refine Or.inl ?_
 conv => whnf
 refine ⟨fun g => zF g,fun _ => ?_⟩
 conv => whnf
 refine Or.inl ?_
 conv => whnf
 refine ⟨Unit,fun _ => ⟨[(12,.o (.c (.val (.int .i64 ((0:Nat):Int))))),(13,.o (.c (.val (.int .i64 ((0:Nat):Int)))))],[]⟩,fun _ => 0,⟨(),[],⟨rfl,trivial,rfl⟩,rfl,rfl,trivial⟩,fun _ => ?_⟩
 conv => whnf
 refine ⟨fun g => zF g,fun _ => ?_⟩
 conv => whnf
 exact Or.inl ⟨rfl,rfl⟩
theorem sameVV (w0:World) {l:List ByteArray} (hl:l.length ≤ 2147483648) :
   CallsA Tryz.prog w0 13 [.c (.vec 0 l.length),.c (.vec 1 l.length)] [strB l,strB l] fun r H => r = .o (.c (.val (.bool true))) ∧ H = [strB l,strB l] := by
 -- (.vec 0 l.length) the first,(.vec 1 l.length) the second,[strB l,strB l] the blocks,[0,1] the renaming,⟨rfl,⟨rfl,rfl,rfl,rfl,trivial⟩,rfl⟩ its proof,s,hs a load,s,hs another
 refine callsA_of_ev c13_ ?_
 conv => whnf
 refine Or.inl ?_
 conv => whnf
 rw [neq_nat]
 refine ⟨fun g => zF g,fun _ => ?_⟩
 conv => whnf
 refine Or.inl ?_
 conv => whnf
 refine ⟨{i:Nat // i ≤ l.length},fun ⟨i,_⟩ => ⟨[(0,.o (.c (.vec 0 l.length))),(1,.o (.c (.vec 1 l.length))),(12,.o (.c (.val (.int .i64 (l.length:Nat))))),(13,.o (.c (.val (.int .i64 (i:Nat)))))],[strB l,strB l]⟩,fun i => l.length - i.1,⟨⟨0,Nat.zero_le _⟩,[0,1],⟨rfl,⟨rfl,rfl,rfl,rfl,trivial⟩,rfl⟩,rfl,rfl,rfl,rfl,trivial⟩,fun ⟨i,hi⟩ => ?_⟩
 conv => whnf
 refine ⟨fun g => ?_,fun g => ?_⟩
 · have g:i < l.length := lt_t g
   obtain ⟨s,hs⟩:∃ s,l[i]? = some s := ⟨_,List.getElem?_eq_getElem g⟩
   conv => whnf
   refine Or.inl ?_
   conv => whnf
   refine ⟨⟨Int.natCast_nonneg i,Int.ofNat_lt.2 g⟩,?_⟩
   conv => whnf
   refine ⟨s,hs,?_⟩
   conv => whnf
   refine ⟨⟨Int.natCast_nonneg i,Int.ofNat_lt.2 g⟩,?_⟩
   conv => whnf
   refine ⟨s,hs,?_⟩
   conv => whnf
   rw [neq_self]
   refine ⟨fun g => zF g,fun _ => ?_⟩
   conv => whnf
   exact ⟨⟨i + 1,g⟩,⟨[0,1],⟨rfl,⟨rfl,rfl,rfl,rfl,trivial⟩,rfl⟩,rfl,rfl,rfl,eq_i64 (by rw [nadd,nwrapi (by omega)]),trivial⟩,by show l.length - (i + 1) < l.length - i; omega⟩
 · conv => whnf
   exact Or.inl ⟨rfl,rfl⟩
end Go.Proofs.YtokkphocaloelaaGreatDoor

end
section
namespace Go.Proofs.YtokkphocaloelaaGreatDoor
open Go Go.Vc
set_option maxRecDepth 100000
set_option maxHeartbeats 8000000

def lcdOf (p:Pg):List ByteArray × Nat := (strsL p.segs,p.gran)
end Go.Proofs.YtokkphocaloelaaGreatDoor

end
section
namespace Go.Proofs.YtokkphocaloelaaGreatDoor
open Go Go.Vc
set_option maxRecDepth 100000
set_option maxHeartbeats 8000000

def encQ:Enc Nat := ⟨fun bs n => match bs with
 | [d,h] => [.vec d n,.ptr h 0]
 | _ => [.val (.slice none 0 0),.val (.pointer none)],fun σ bs bs' n hl hk => by
 match bs,bs',hl with
 | [],[],_ => rfl
 | [a],[a'],_ => rfl
 | [a,b],[a',b'],_ =>
   have h0 := hk 0 (by simp)
   have h1 := hk 1 (by simp)
   simp only [List.getD_cons_zero,List.getD_cons_succ] at h0 h1
   simp only [List.map_cons,CV.ren,h0,h1,List.map_nil]
 | a :: b :: c :: r,a' :: b' :: c' :: r',_ => rfl⟩
theorem encQ_len (bs:List Nat) (n:Nat):(encQ.f bs n).length = 2 := by
 match bs with
 | [] => rfl
 | [a] => rfl
 | [a,b] => rfl
 | a :: b :: c :: r => rfl
def quB (d h n:Nat):Blk := .vec true 127 encQ [d,h] 2 [n]
theorem and1_u8 {n:Nat} (hn:n < 256) (h:n % 2 = 0):(IntKind.u8.wrap (((BitVec.ofInt IntKind.u8.bits ((n:Nat):Int) &&& BitVec.ofInt IntKind.u8.bits ((1:Nat):Int)).toNat:Nat):Int) != ((0:Nat):Int)) = false := by
 rw [nand8 hn (by omega),Nat.and_one_is_mod,h]
 rfl
theorem prepQueueW (w0:World) (m:Bool) {h:List Int} (hb:Byt h) (hf:bt h 5 % 2 = 0):CallsA Tryz.prog w0 95 [.c (.ptr 0 0),.c (.ptr 8 0)] [rdB 1 3 4 5 m,.dead,.dead,.dead,psB 6 7 .none none false 0 false,.dead,.dead,.dead,hpB h] fun r H =>
   r = .o (.c (.val .nilIface)) ∧ H = [rdB 1 3 4 5 m,.dead,.dead,.dead,psB 6 7 .none none false 0 false,.dead,.dead,.dead,hpB h] := by
 refine callsA_of_ev c95_ ?_
 conv => whnf
 refine CallsA.liftK (H0 := [rdB 1 3 4 5 m,.dead,.dead,.dead,.dead,.dead]) [0,1,2,3,4,5] [rdB 1 3 4 5 m,.dead,.dead,.dead,.dead,.dead,.dead,.dead,hpB h] ⟨rfl,rfl,trivial⟩ rfl ⟨rdE (by rfl) (by rfl) (by rfl) (by rfl) m,rfl,l1 _,l2 _,l3 _,l4 _,l5 _,trivial⟩ rfl (getStateW w0 m) ?_
 rintro _ _ ⟨rfl,rfl⟩
 have hb5 := bt_lt hb 5
 conv => whnf
 rw [and1_u8 hb5 hf]
 refine ⟨fun _ => ?_,fun g => zT g⟩
 conv => whnf
 refine Or.inl ?_
 conv => whnf
 refine ⟨fun g => zF g,fun _ => ?_⟩
 conv => whnf
 refine Or.inl ?_
 conv => whnf
 refine ⟨fun g => zF g,fun _ => ?_⟩
 conv => whnf
 refine Or.inl ?_
 conv => whnf
 refine ⟨fun g => zF g,fun _ => ?_⟩
 conv => whnf
 exact Or.inr ⟨[0,1,2,3,4,5,6,7,8],.o (.c (.val .nilIface)),[rdB 1 3 4 5 m,.dead,.dead,.dead,psB 6 7 .none none false 0 false,.dead,.dead,.dead,hpB h],⟨rfl,⟨rdEE (by rfl) (by rfl) (by rfl) (by rfl) (by rfl) (by rfl) (by rfl) (by rfl) m,rfl,l1 _,l2 _,l3 _,rfl,rfl,l5 _,show 6 < 9 by decide,show 7 < 9 by decide,rfl,rfl,trivial⟩,rfl⟩,rfl,rfl,rfl⟩
theorem enqueueW (w0:World) (m:Bool) {h X:List Int} (hX:X.length ≤ 1073741824):CallsA Tryz.prog w0 97 [.c (.ptr 0 0),.c (.ptr 8 0),.c (.vec 9 X.length)] [rdB 1 3 4 5 m,.dead,.dead,.dead,psB 6 9 .none (some X.length) false 0 false,.dead,.dead,.dead,hpB h,rowB X] fun r H =>
   r = .t [] ∧ H = [rdB 1 3 4 5 m,.dead,.dead,.dead,psB 12 9 (.vec 1) (some X.length) false 0 false,.dead,.dead,.dead,hpB h,rowB X,rowB X,hpB h,quB 10 11 X.length] := by
 refine callsA_of_ev c97_ ?_
 conv => whnf
 refine CallsA.liftK (H0 := [rdB 1 3 4 5 m,.dead,.dead,.dead,.dead,.dead]) [0,1,2,3,4,5] [rdB 1 3 4 5 m,.dead,.dead,.dead,.dead,.dead,.dead,.dead,hpB h,rowB X,hpB h] ⟨rfl,rfl,rfl,rfl,trivial⟩ rfl ⟨rdE (by rfl) (by rfl) (by rfl) (by rfl) m,rfl,l1 _,l2 _,l3 _,l4 _,l5 _,trivial⟩ rfl (getStateW w0 m) ?_
 rintro _ _ ⟨rfl,rfl⟩
 refine ⟨trivial,?_⟩
 conv => whnf
 refine CallsA.liftK (H0 := [rdB 1 3 4 5 m,.dead,.dead,.dead,.dead,.dead]) [0,1,2,3,4,5] [rdB 1 3 4 5 m,.dead,.dead,.dead,.dead,.dead,.dead,.dead,hpB h,rowB X,hpB h] ⟨(rdB_ren (by rfl) (by rfl) (by rfl) (by rfl) m).symm,rfl,rfl,rfl,trivial⟩ rfl ⟨rdE (by rfl) (by rfl) (by rfl) (by rfl) m,rfl,l1 _,l2 _,l3 _,l4 _,l5 _,trivial⟩ rfl (getStateW w0 m) ?_
 rintro _ _ ⟨rfl,rfl⟩
 refine ⟨trivial,?_⟩
 conv => whnf
 refine ⟨by decide,Int,encI .u8,[],X,fun _ => rfl,⟨rfl,Nat.le_refl _,rfl,by rw [List.take_of_length_le (Nat.le_refl _)]⟩,by omega,by omega,?_⟩
 conv => whnf
 refine ⟨⟨⟨rfl,rfl⟩,trivial⟩,?_⟩
 conv => whnf
 refine ⟨⟨⟨rfl,rfl⟩,trivial⟩,?_⟩
 conv => whnf
 refine ⟨_,Ghost.refl w0 _,?_⟩
 conv => whnf
 refine ⟨by decide,Nat,encQ,[11,10],[X.length],encQ_len _,⟨rfl,rfl,rfl⟩,by simp only [List.length_cons,List.length_nil]; omega,by simp only [List.length_cons,List.length_nil]; omega,?_⟩
 conv => whnf
 refine ⟨trivial,?_⟩
 conv => whnf
 refine ⟨trivial,?_⟩
 conv => whnf
 exact Or.inr ⟨[0,1,2,3,4,5,6,7,8,9,11,10,13],.t [],[rdB 1 3 4 5 m,.dead,.dead,.dead,psB 12 9 (.vec 1) (some X.length) false 0 false,.dead,.dead,.dead,hpB h,rowB X,rowB X,hpB h,quB 10 11 X.length],⟨rfl,⟨rdEE (by rfl) (by rfl) (by rfl) (by rfl) (by rfl) (by rfl) (by rfl) (by rfl) m,rfl,l1 _,l2 _,l3 _,rfl,rfl,l5 _,show 6 < 14 by decide,show 7 < 14 by decide,rfl,rfl,rfl,rfl,rfl,rfl,rfl,rfl,rfl,rfl,trivial⟩,rfl⟩,rfl,rfl,rfl⟩
theorem l6 (n:Nat):6 < n + 7 := by omega
theorem l7 (n:Nat):7 < n + 8 := by omega
theorem l9 (n:Nat):9 < n + 10 := by omega
theorem l10 (n:Nat):10 < n + 11 := by omega
theorem l11 (n:Nat):11 < n + 12 := by omega
structure OneP (segs:List (List Int)) (k:Nat):Prop where
 len:segs.length = k + 1
 k8:k < 256
 at':∀ i x,segs[i]? = some x → x.length ≤ 255 ∧ (x.length = 255 ↔ i < k)
def qpI (k:Nat) := {i:Nat // i ≤ k} ⊕ Unit
def qpSt (m:Bool) (h:List Int) (segs:List (List Int)) (k:Nat):qpI k → S
 | .inl ⟨0,_⟩ => ⟨[(0,.o (.c (.ptr 0 0))),(1,.o (.c (.vec 10 (k + 1)))),(2,.o (.c (.vec 9 (k + 1)))),(3,.o (.c (.ptr 8 0))),(9,.o (.c (.ptr 4 0))),(22,.o (.c (.vec 10 (k + 1)))),(23,.o (.c (.val (.int .i64 ((k + 1:Nat):Int))))),(24,.o (.c (.val (.int .i64 ((0:Nat):Int)))))],[rdB 1 3 4 5 m,.dead,.dead,.dead,psB 6 7 .none none false 0 false,.dead,.dead,.dead,hpB h,rowB (lenI segs),outB 11 segs,segB segs]⟩
 | .inl ⟨i + 1,_⟩ => ⟨[(0,.o (.c (.ptr 0 0))),(1,.o (.c (.vec 10 (k + 1)))),(2,.o (.c (.vec 9 (k + 1)))),(3,.o (.c (.ptr 8 0))),(9,.o (.c (.ptr 4 0))),(22,.o (.c (.vec 10 (k + 1)))),(23,.o (.c (.val (.int .i64 ((k + 1:Nat):Int))))),(24,.o (.c (.val (.int .i64 ((i + 1:Nat):Int)))))],[rdB 1 3 4 5 m,.dead,.dead,.dead,psB 6 12 .none (some (segs.take (i + 1)).flatten.length) false 0 false,.dead,.dead,.dead,hpB h,rowB (lenI segs),outB 11 segs,segB segs,rowB (segs.take (i + 1)).flatten]⟩
 | .inr _ => ⟨[(0,.o (.c (.ptr 0 0))),(3,.o (.c (.ptr 8 0))),(9,.o (.c (.ptr 4 0))),(23,.o (.c (.val (.int .i64 ((k + 1:Nat):Int))))),(24,.o (.c (.val (.int .i64 ((k + 1:Nat):Int)))))],[rdB 1 3 4 5 m,.dead,.dead,.dead,psB 12 7 (.vec 1) none false 0 false,.dead,.dead,.dead,hpB h,.dead,.dead,.dead,quB 13 14 segs.flatten.length,rowB segs.flatten,hpB h]⟩
def qpM (k:Nat):qpI k → Nat
 | .inl i => k + 1 - i.1
 | .inr _ => 0
theorem queuePkW (w0:World) (m:Bool) {h:List Int} {segs:List (List Int)} {k:Nat} (hb:Byt h) (hf:bt h 5 % 2 = 0) (ho:OneP segs k):CallsA Tryz.prog w0 55 [.c (.ptr 0 0),.c (.vec 10 (k + 1)),.c (.vec 9 (k + 1)),.c (.ptr 8 0)] [rdB 1 3 4 5 m,.dead,.dead,.dead,psB 6 7 .none none false 0 false,.dead,.dead,.dead,hpB h,rowB (lenI segs),outB 11 segs,segB segs] fun r H =>
   r = .o (.c (.val .nilIface)) ∧ H = [rdB 1 3 4 5 m,.dead,.dead,.dead,psB 12 7 (.vec 1) none false (mkLi h 0) (mkHl h false),.dead,.dead,.dead,hpB h,.dead,.dead,.dead,quB 13 14 segs.flatten.length,rowB segs.flatten,hpB h] := by
 have hk8 := ho.k8
 have hFl:segs.flatten.length ≤ 65536 := by
   have:∀ (l:List (List Int)),(∀ x ∈ l,x.length ≤ 255) → l.flatten.length ≤ 255 * l.length := by
     intro l
     induction l with
     | nil => intro _; exact Nat.le_refl _
     | cons x r ih =>
       intro hx
       rw [List.flatten_cons,List.length_append,List.length_cons]
       have := hx x (List.mem_cons_self ..)
       have := ih fun y hy => hx y (List.mem_cons_of_mem _ hy)
       omega
   have h1 := this segs fun x hx => by
     obtain ⟨i,hi,rfl⟩ := List.mem_iff_getElem.1 hx
     exact (ho.at' i _ (List.getElem?_eq_getElem hi)).1
   rw [ho.len] at h1
   omega
 refine callsA_of_ev c55_ ?_
 conv => whnf
 refine CallsA.liftK (H0 := [rdB 1 3 4 5 m,.dead,.dead,.dead,.dead,.dead]) [0,1,2,3,4,5] [rdB 1 3 4 5 m,.dead,.dead,.dead,.dead,.dead,.dead,.dead,hpB h,rowB (lenI segs),outB 11 segs,segB segs] ⟨rfl,rfl,rfl,rfl,rfl,trivial⟩ rfl ⟨rdE (by rfl) (by rfl) (by rfl) (by rfl) m,rfl,l1 _,l2 _,l3 _,l4 _,l5 _,trivial⟩ rfl (getStateW w0 m) ?_
 rintro _ _ ⟨rfl,rfl⟩
 conv => whnf
 refine Or.inr ⟨Unit,fun _ => ⟨[(0,.o (.c (.ptr 0 0))),(1,.o (.c (.vec 10 (k + 1)))),(2,.o (.c (.vec 9 (k + 1)))),(3,.o (.c (.ptr 8 0))),(9,.o (.c (.ptr 4 0)))],[rdB 1 3 4 5 m,.dead,.dead,.dead,psB 6 7 .none none false 0 false,.dead,.dead,.dead,hpB h,rowB (lenI segs),outB 11 segs,segB segs]⟩,?_,fun _ => ?_⟩
 · conv => whnf
   refine CallsA.lift (H0 := [rdB 1 3 4 5 m,.dead,.dead,.dead,psB 6 7 .none none false 0 false,.dead,.dead,.dead,hpB h]) [0,1,2,3,4,5,6,7,8] rfl ⟨rdEE (by rfl) (by rfl) (by rfl) (by rfl) (by rfl) (by rfl) (by rfl) (by rfl) m,rfl,l1 _,l2 _,l3 _,rfl,rfl,l5 _,l6 _,l7 _,rfl,rfl,trivial⟩ rfl (prepQueueW w0 m hb hf) ?_
   rintro _ _ ⟨rfl,rfl⟩
   conv => whnf
   refine ⟨fun g => zF g,fun _ => ?_⟩
   conv => whnf
   exact ⟨(),[0,1,2,3,4,5,6,7,8,9,10,11],⟨rfl,⟨rdEE (by rfl) (by rfl) (by rfl) (by rfl) (by rfl) (by rfl) (by rfl) (by rfl) m,rfl,l1 _,l2 _,l3 _,rfl,rfl,l5 _,l6 _,l7 _,rfl,rfl,rfl,rfl,rfl,rfl,rfl,rfl,trivial⟩,rfl⟩,rfl,rfl,rfl,rfl,rfl,trivial⟩
 conv => whnf
 refine Or.inr ⟨Unit,fun _ => ⟨[(0,.o (.c (.ptr 0 0))),(3,.o (.c (.ptr 8 0))),(9,.o (.c (.ptr 4 0)))],[rdB 1 3 4 5 m,.dead,.dead,.dead,psB 12 7 (.vec 1) none false 0 false,.dead,.dead,.dead,hpB h,.dead,.dead,.dead,quB 13 14 segs.flatten.length,rowB segs.flatten,hpB h]⟩,?_,fun _ => ?_⟩
 · conv => whnf
   refine ⟨qpI k,qpSt m h segs k,qpM k,⟨.inl ⟨0,Nat.zero_le _⟩,[0,1,2,3,4,5,6,7,8,9,10,11],⟨rfl,⟨rdE (by rfl) (by rfl) (by rfl) (by rfl) m,rfl,l1 _,l2 _,l3 _,rfl,rfl,l5 _,l6 _,l7 _,rfl,rfl,rfl,rfl,rfl,rfl,rfl,rfl,trivial⟩,rfl⟩,rfl,rfl,rfl,rfl,rfl,rfl,?_,rfl,trivial⟩,fun j => ?_⟩
   · show some (AV.o (.c (.val (.int .i64 _)))) = some (AV.o (.c (.val (.int .i64 ((k + 1:Nat):Int)))))
     rfl
   match j with
   | .inr _ =>
     conv => whnf
     refine ⟨fun g => absurd (lt_t g) (Nat.lt_irrefl _),fun _ => ?_⟩
     conv => whnf
     exact ⟨(),[0,1,2,3,4,5,6,7,8,9,10,11,12,13,14],⟨rfl,⟨rdE (by rfl) (by rfl) (by rfl) (by rfl) m,rfl,l1 _,l2 _,l3 _,rfl,rfl,l5 _,l6 _,l7 _,rfl,rfl,l9 _,l10 _,l11 _,rfl,rfl,rfl,rfl,rfl,rfl,trivial⟩,rfl⟩,rfl,rfl,rfl,trivial⟩
   | .inl ⟨0,hi⟩ =>
     obtain ⟨x,hx⟩:∃ x,segs[0]? = some x := ⟨_,List.getElem?_eq_getElem (by rw [ho.len]; omega)⟩
     have hat := ho.at' 0 x hx
     have hxl := hat.1
     have hsz:(lenI segs)[0]? = some ((x.length:Nat):Int) := by unfold lenI; rw [List.getElem?_map,hx]; rfl
     have hrow:(turns (segs.map List.length))[0]? = some (0,x.length) := by rw [turns_get,List.getElem?_map,hx]; rfl
     have htk:(segs.take (0 + 1)).flatten = ([]:List Int) ++ x := by
       rw [List.take_add_one,hx,List.flatten_append]
       simp
     have hfz:(([]:List Int) ++ x).length ≤ 65536 := by
       rw [← htk]
       have e1:segs.flatten = (segs.take (0 + 1)).flatten ++ (segs.drop (0 + 1)).flatten := by rw [← List.flatten_append,List.take_append_drop]
       have e2 := congrArg List.length e1
       rw [List.length_append] at e2
       omega
     rw [List.length_append] at hfz
     conv => whnf
     refine ⟨fun _ => ?_,fun g => absurd (lt_f (a := 0) (b := k + 1) g) (by omega)⟩
     conv => whnf
     refine Or.inl ?_
     conv => whnf
     refine ⟨⟨by omega,by omega⟩,?_⟩
     conv => whnf
     refine ⟨(0,x.length),hrow,?_⟩
     conv => whnf
     refine ⟨⟨by omega,by omega⟩,?_⟩
     conv => whnf
     refine ⟨((x.length:Nat):Int),hsz,?_⟩
     conv => whnf
     refine Or.inl ?_
     conv => whnf
     refine ⟨fun g => zF g,fun _ => ?_⟩
     conv => whnf
     refine ⟨by decide,Int,encI .u8,[],x,fun _ => rfl,⟨rfl,x,hx,Nat.le_refl _,rfl,by rw [List.take_of_length_le (Nat.le_refl _)]⟩,by omega,by omega,?_⟩
     conv => whnf
     refine Or.inl ?_
     conv => whnf
     refine ⟨fun g => ?_,fun g => ?_⟩
     · have g:x.length = 255 := beq_t (b := 255) g
       have hik := hat.2.1 g
       conv => whnf
       refine ⟨.inl ⟨0 + 1,by omega⟩,⟨[0,1,2,3,4,5,6,7,8,9,10,11,12],⟨rfl,⟨rdE (by rfl) (by rfl) (by rfl) (by rfl) m,rfl,l1 _,l2 _,l3 _,?_,rfl,l5 _,l6 _,l7 _,rfl,rfl,rfl,rfl,rfl,rfl,rfl,rfl,?_,rfl,trivial⟩,rfl⟩,rfl,rfl,rfl,rfl,rfl,rfl,rfl,?_,trivial⟩,?_⟩
       · show some (psB 6 12 .none (some x.length) false 0 false) = some (psB 6 12 .none (some (segs.take (0 + 1)).flatten.length) false 0 false)
         rw [htk]
         rfl
       · show some (rowB x) = some (rowB (segs.take (0 + 1)).flatten)
         rw [htk]
         rfl
       · refine eq_i64 ?_
         rw [IntKind.wrap_i64]
         omega
       · show k + 1 - (0 + 1) < k + 1 - 0
         omega
     · have g:x.length ≠ 255 := beq_f (b := 255) g
       have hik:0 = k := by
         have h1:¬ 0 < k := fun c => g (hat.2.2 c)
         omega
       have hall:segs.flatten = x := by
         have:segs.take (0 + 1) = segs := List.take_of_length_le (by rw [ho.len]; omega)
         rw [this] at htk
         rw [htk]
         rfl
       conv => whnf
       refine CallsA.lift (H0 := [rdB 1 3 4 5 m,.dead,.dead,.dead,psB 6 9 .none (some x.length) false 0 false,.dead,.dead,.dead,hpB h,rowB x]) [0,1,2,3,4,5,6,7,8,12] rfl ⟨rdE (by rfl) (by rfl) (by rfl) (by rfl) m,rfl,l1 _,l2 _,l3 _,rfl,rfl,l5 _,l6 _,l7 _,rfl,rfl,rfl,rfl,trivial⟩ rfl (enqueueW w0 m (h := h) (X := x) (by omega)) ?_
       rintro _ _ ⟨rfl,rfl⟩
       conv => whnf
       refine ⟨.inr (),⟨[0,1,2,3,4,5,6,7,8,9,10,11,15,13,14],⟨rfl,⟨rdEE (by rfl) (by rfl) (by rfl) (by rfl) (by rfl) (by rfl) (by rfl) (by rfl) m,rfl,l1 _,l2 _,l3 _,rfl,rfl,l5 _,l6 _,l7 _,rfl,rfl,l9 _,l10 _,l11 _,?_,rfl,?_,rfl,rfl,rfl,trivial⟩,rfl⟩,rfl,rfl,rfl,rfl,?_,trivial⟩,?_⟩
       · show some (quB 13 14 x.length) = some (quB 13 14 segs.flatten.length)
         rw [hall]
       · show some (rowB x) = some (rowB segs.flatten)
         rw [hall]
       · refine eq_i64 ?_
         rw [IntKind.wrap_i64]
         omega
       · show 0 < k + 1 - 0
         omega
   | .inl ⟨i + 1,hi⟩ =>
     obtain ⟨x,hx⟩:∃ x,segs[(i + 1)]? = some x := ⟨_,List.getElem?_eq_getElem (by rw [ho.len]; omega)⟩
     have hat := ho.at' (i + 1) x hx
     have hxl := hat.1
     have hsz:(lenI segs)[(i + 1)]? = some ((x.length:Nat):Int) := by unfold lenI; rw [List.getElem?_map,hx]; rfl
     have hrow:(turns (segs.map List.length))[(i + 1)]? = some ((i + 1),x.length) := by rw [turns_get,List.getElem?_map,hx]; rfl
     have htk:(segs.take ((i + 1) + 1)).flatten = (segs.take (i + 1)).flatten ++ x := by
       rw [List.take_add_one,hx,List.flatten_append]
       simp
     have hfz:((segs.take (i + 1)).flatten ++ x).length ≤ 65536 := by
       rw [← htk]
       have e1:segs.flatten = (segs.take ((i + 1) + 1)).flatten ++ (segs.drop ((i + 1) + 1)).flatten := by rw [← List.flatten_append,List.take_append_drop]
       have e2 := congrArg List.length e1
       rw [List.length_append] at e2
       omega
     rw [List.length_append] at hfz
     conv => whnf
     refine ⟨fun _ => ?_,fun g => absurd (lt_f (a := (i + 1)) (b := k + 1) g) (by omega)⟩
     conv => whnf
     refine Or.inl ?_
     conv => whnf
     refine ⟨⟨by omega,by omega⟩,?_⟩
     conv => whnf
     refine ⟨((i + 1),x.length),hrow,?_⟩
     conv => whnf
     refine ⟨⟨by omega,by omega⟩,?_⟩
     conv => whnf
     refine ⟨((x.length:Nat):Int),hsz,?_⟩
     conv => whnf
     refine Or.inl ?_
     conv => whnf
     refine ⟨fun g => zF g,fun _ => ?_⟩
     conv => whnf
     refine ⟨rfl,x,⟨rfl,x,hx,Nat.le_refl _,rfl,by rw [List.take_of_length_le (Nat.le_refl _)]⟩,by rw [List.length_append]; omega,by rw [List.length_append]; omega,?_⟩
     conv => whnf
     refine Or.inl ?_
     conv => whnf
     refine ⟨fun g => ?_,fun g => ?_⟩
     · have g:x.length = 255 := beq_t (b := 255) g
       have hik := hat.2.1 g
       conv => whnf
       refine ⟨.inl ⟨(i + 1) + 1,by omega⟩,⟨[0,1,2,3,4,5,6,7,8,9,10,11,13],⟨rfl,⟨rdE (by rfl) (by rfl) (by rfl) (by rfl) m,rfl,l1 _,l2 _,l3 _,?_,rfl,l5 _,l6 _,l7 _,rfl,rfl,rfl,rfl,rfl,rfl,rfl,rfl,?_,rfl,trivial⟩,rfl⟩,rfl,rfl,rfl,rfl,rfl,rfl,rfl,?_,trivial⟩,?_⟩
       · show some (psB 6 13 .none (some ((segs.take (i + 1)).flatten ++ x).length) false 0 false) = some (psB 6 13 .none (some (segs.take ((i + 1) + 1)).flatten.length) false 0 false)
         rw [htk]
       · show some (rowB ((segs.take (i + 1)).flatten ++ x)) = some (rowB (segs.take ((i + 1) + 1)).flatten)
         rw [htk]
       · refine eq_i64 ?_
         rw [IntKind.wrap_i64]
         omega
       · show k + 1 - ((i + 1) + 1) < k + 1 - (i + 1)
         omega
     · have g:x.length ≠ 255 := beq_f (b := 255) g
       have hik:(i + 1) = k := by
         have h1:¬ (i + 1) < k := fun c => g (hat.2.2 c)
         omega
       have hall:segs.flatten = ((segs.take (i + 1)).flatten ++ x) := by
         have:segs.take ((i + 1) + 1) = segs := List.take_of_length_le (by rw [ho.len]; omega)
         rw [this] at htk
         rw [htk]
       conv => whnf
       refine CallsA.lift (H0 := [rdB 1 3 4 5 m,.dead,.dead,.dead,psB 6 9 .none (some ((segs.take (i + 1)).flatten ++ x).length) false 0 false,.dead,.dead,.dead,hpB h,rowB ((segs.take (i + 1)).flatten ++ x)]) [0,1,2,3,4,5,6,7,8,13] rfl ⟨rdE (by rfl) (by rfl) (by rfl) (by rfl) m,rfl,l1 _,l2 _,l3 _,rfl,rfl,l5 _,l6 _,l7 _,rfl,rfl,rfl,rfl,trivial⟩ rfl (enqueueW w0 m (h := h) (X := ((segs.take (i + 1)).flatten ++ x)) (by rw [List.length_append]; omega)) ?_
       rintro _ _ ⟨rfl,rfl⟩
       conv => whnf
       refine ⟨.inr (),⟨[0,1,2,3,4,5,6,7,8,9,10,11,16,14,15],⟨rfl,⟨rdEE (by rfl) (by rfl) (by rfl) (by rfl) (by rfl) (by rfl) (by rfl) (by rfl) m,rfl,l1 _,l2 _,l3 _,rfl,rfl,l5 _,l6 _,l7 _,rfl,rfl,l9 _,l10 _,l11 _,?_,rfl,?_,rfl,rfl,rfl,trivial⟩,rfl⟩,rfl,rfl,rfl,rfl,?_,trivial⟩,?_⟩
       · show some (quB 14 15 ((segs.take (i + 1)).flatten ++ x).length) = some (quB 14 15 segs.flatten.length)
         rw [hall]
       · show some (rowB ((segs.take (i + 1)).flatten ++ x)) = some (rowB segs.flatten)
         rw [hall]
       · refine eq_i64 ?_
         rw [IntKind.wrap_i64]
         omega
       · show 0 < k + 1 - (i + 1)
         omega
 conv => whnf
 refine CallsA.liftK (H0 := [rdB 1 3 4 5 m,.dead,.dead,.dead,psB 7 8 (.vec 1) none false 0 false,.dead,hpB h,.dead,.dead]) [0,1,2,3,4,5,8,12,7] [rdB 1 3 4 5 m,.dead,.dead,.dead,psB 12 7 (.vec 1) none false 0 false,.dead,.dead,.dead,hpB h,.dead,.dead,.dead,.dead,rowB segs.flatten,hpB h] ⟨rfl,rfl,rfl,rfl,rfl,trivial⟩ rfl ⟨rdE (by rfl) (by rfl) (by rfl) (by rfl) m,rfl,l1 _,l2 _,l3 _,rfl,rfl,l5 _,rfl,rfl,show 12 < 15 by decide,l7 _,trivial⟩ rfl (markReadW w0 m (.vec 1) none false 0 false) ?_
 rintro _ _ ⟨rfl,rfl⟩
 conv => whnf
 exact Or.inr ⟨[0,1,2,3,4,5,6,7,8,9,10,11,12,13,14],.o (.c (.val .nilIface)),[rdB 1 3 4 5 m,.dead,.dead,.dead,psB 12 7 (.vec 1) none false (mkLi h 0) (mkHl h false),.dead,.dead,.dead,hpB h,.dead,.dead,.dead,quB 13 14 segs.flatten.length,rowB segs.flatten,hpB h],⟨rfl,⟨rdEE (by rfl) (by rfl) (by rfl) (by rfl) (by rfl) (by rfl) (by rfl) (by rfl) m,rfl,l1 _,l2 _,l3 _,rfl,rfl,l5 _,l6 _,l7 _,rfl,rfl,l9 _,l10 _,l11 _,rfl,rfl,rfl,rfl,rfl,rfl,trivial⟩,rfl⟩,rfl,rfl,rfl⟩
end Go.Proofs.YtokkphocaloelaaGreatDoor

end
section
namespace Go.Proofs.YtokkphocaloelaaGreatDoor
open Go Go.Vc
set_option maxRecDepth 100000
set_option maxHeartbeats 8000000

theorem nwrap16 {n:Nat} (h:n < 65536):IntKind.u16.wrap (n:Int) = n := by rw [IntKind.wrap_u16]; omega
theorem nor16 {a b:Nat} (ha:a < 65536) (hb:b < 65536):IntKind.u16.wrap (((BitVec.ofInt IntKind.u16.bits (a:Int) ||| BitVec.ofInt IntKind.u16.bits (b:Int)).toNat:Nat):Int) = ((a ||| b:Nat):Int) := by
 have e:(BitVec.ofInt IntKind.u16.bits (a:Int) ||| BitVec.ofInt IntKind.u16.bits (b:Int)).toNat = a ||| b := by
   show (BitVec.ofInt 16 (a:Int) ||| BitVec.ofInt 16 (b:Int)).toNat = _
   rw [BitVec.toNat_or,BitVec.toNat_ofInt,BitVec.toNat_ofInt]
   congr 1 <;> omega
 rw [e]
 exact nwrap16 (Nat.or_lt_two_pow (n := 16) ha hb)
theorem orS16 {x y s:Nat} (hx:x < 2 ^ s) (hy:y < 256) (hs:s ≤ 8):IntKind.u16.wrap (((BitVec.ofInt IntKind.u16.bits (x:Int) ||| BitVec.ofInt IntKind.u16.bits (IntKind.u16.wrap (IntKind.u16.wrap (y:Int) * (2:Int) ^ min s IntKind.u16.bits))).toNat:Nat):Int) = ((x + y * 2 ^ s:Nat):Int) := by
 have h56:2 ^ s ≤ 2 ^ 8 := Nat.pow_le_pow_right (by omega) hs
 have hm:y * 2 ^ s ≤ 255 * 2 ^ 8 := Nat.mul_le_mul (by omega) h56
 rw [nwrap16 (n := y) (by omega),nshlk .u16 y s (by show s ≤ 16; omega),nwrap16 (n := y * 2 ^ s) (by omega),nor16 (by omega) (by omega),lorS hx]
theorem take_n2 {l:List Int} {o:Nat} {a0 a1:Int} (h0:l[o]? = some a0) (h1:l[o + 1]? = some a1):(l.drop o).take 2 = [a0,a1] := by
 apply List.ext_getElem?
 intro i
 rw [List.getElem?_take,List.getElem?_drop]
 match i with
 | 0 => exact h0
 | 1 => exact h1
 | i + 2 => rw [if_neg (by omega)]; rfl
theorem av16 {x y:Int} (h:x = y):AV.o (A1.c (CV.val (.int .u16 x))) = AV.o (A1.c (CV.val (.int .u16 y))) := by rw [h]
theorem le16W (w0:World) {l:List Int} (hl:Byt l) {o c:Nat} (h:o + 2 ≤ l.length):CallsA Tryz.prog w0 141 [.a [],.c (.sli 0 1 o 2 c)] [rowB l] fun r H => r = .o (.c (.val (.int .u16 ((le ((l.drop o).take 2):Nat):Int)))) ∧ H = [rowB l] := by
 obtain ⟨a0,h0,l0⟩ := byt_at hl (i := o) (by omega)
 obtain ⟨a1,h1,l1⟩ := byt_at hl (i := o + 1) (by omega)
 rw [take_n2 h0 h1]
 refine callsA_of_ev c141_ ?_
 conv => whnf
 refine ⟨⟨by decide,by decide⟩,?_⟩
 conv => whnf
 refine ⟨_,h1,?_⟩
 conv => whnf
 refine ⟨⟨by decide,by decide⟩,?_⟩
 conv => whnf
 refine ⟨_,h0,?_⟩
 conv => whnf
 refine ⟨⟨by decide,by decide⟩,?_⟩
 conv => whnf
 refine ⟨_,h1,?_⟩
 conv => whnf
 refine Or.inr ⟨[0],.o (.c (.val (.int .u16 ((le [(a0:Int),(a1:Int)]:Nat):Int)))),[rowB l],⟨rfl,⟨rfl,rfl,trivial⟩,rfl⟩,?_,rfl,rfl⟩
 refine av16 ?_
 rw [nwrap16 (n := a0) (by omega),orS16 (x := a0) (y := a1) (s := 8) (by omega) l1 (by omega)]
 simp only [le,Int.toNat_natCast]
 omega
def ohB (X:List Int):Blk := .cells 105 [u8 X 18,u8 X 9,.val (.int .u16 ((le ((X.drop 16).take 2):Nat):Int)),.val (.int .u16 ((le ((X.drop 10).take 2):Nat):Int)),.val (.int .u32 ((le ((X.drop 12).take 4):Nat):Int)),u8 X 8]
def headErr (k:Nat):Prop := k = 8 ∨ k = 9 ∨ k = 10 ∨ k = 11
theorem headErr.lt {k:Nat} (h:headErr k):k < 12 ∧ k ≠ 3 ∧ k ≠ 6 ∧ k ≠ 0 := by unfold headErr at h; omega
theorem parseIDW {w0:World} {t:TypeId} {v:Nat → Value} (he:Errs w0 t v) {h X:List Int} (hh:Byt h) (hl:h.length = 27) (hX:Byt X) (hsig:h.take 4 = [79,103,103,83]) (hfl:bt h 5 = 2) :
   CallsA Tryz.prog w0 132 [.c (.ptr 0 0),.c (.vec 1 X.length)] [hpB h,rowB X] fun r H =>
     ((19 ≤ X.length ∧ X.take 8 = opusHead) ∧ r = .t [.c (.ptr 2 0),.c (.val .nilIface)] ∧ H = [hpB h,rowB X,ohB X]) ∨
     (¬ (19 ≤ X.length ∧ X.take 8 = opusHead) ∧ ∃ k,headErr k ∧ r = .t [.c (.val (.pointer none)),.c (.val (.iface t (v k)))] ∧ H = [.dead,.dead]) := by
 have hs0:((bt h 0:Nat):Int) = 79 ∧ ((bt h 1:Nat):Int) = 103 ∧ ((bt h 2:Nat):Int) = 103 ∧ ((bt h 3:Nat):Int) = 83 := by
   have e:∀ i,i < 4 → ([79,103,103,83]:List Int)[i]? = some ((bt h i:Nat):Int) := fun i hi => by rw [← hsig,List.getElem?_take,if_pos hi,bt_at hh (by omega)]
   exact ⟨(Option.some.inj (e 0 (by decide))).symm,(Option.some.inj (e 1 (by decide))).symm,(Option.some.inj (e 2 (by decide))).symm,(Option.some.inj (e 3 (by decide))).symm⟩
 have hstr:strOf [((bt h 0:Nat):Int),((bt h 1:Nat):Int),((bt h 2:Nat):Int),((bt h 3:Nat):Int)] = ByteArray.mk #[79,103,103,83] := by
   rw [hs0.1,hs0.2.1,hs0.2.2.1,hs0.2.2.2]
   rfl
 refine callsA_of_ev c132_ ?_
 conv => whnf
 refine Or.inl ?_
 conv => whnf
 refine ⟨⟨⟨by decide,by decide⟩,by decide⟩,?_⟩
 conv => whnf
 refine ⟨trivial,[((bt h 0:Nat):Int),((bt h 1:Nat):Int),((bt h 2:Nat):Int),((bt h 3:Nat):Int)],⟨rfl,rfl,rfl⟩,?_⟩
 rw [hstr]
 conv => whnf
 rw [neq_self]
 refine ⟨fun g => zF g,fun _ => ?_⟩
 conv => whnf
 refine Or.inl ?_
 conv => whnf
 rw [hfl,neq_nat]
 refine ⟨fun g => zF g,fun _ => ?_⟩
 conv => whnf
 refine Or.inl ?_
 conv => whnf
 refine ⟨fun g1 => ?_,fun g1 => ?_⟩
 · have g1:X.length < 19 := lt_t g1
   conv => whnf
   refine ⟨.iface t (v 10),?_⟩
   conv => whnf
   refine ⟨he.get 10 (by decide) (by decide) (by decide),?_⟩
   conv => whnf
   refine ⟨rfl,?_⟩
   conv => whnf
   exact Or.inr ⟨[0,1],.t [.c (.val (.pointer none)),.c (.val (.iface t (v 10)))],[.dead,.dead],⟨rfl,⟨l0 _,l1 _,trivial⟩,rfl⟩,rfl,.inr ⟨(fun c => by omega),10,(.inr (.inr (.inl rfl))),rfl,rfl⟩⟩
 have g1:19 ≤ X.length := lt_f g1
 conv => whnf
 refine Or.inl ?_
 conv => whnf
 refine ⟨⟨by decide,by decide,by omega⟩,.inl ⟨fun c _ _ => ?_,fun h => absurd h (by omega),fun h => absurd h (by omega)⟩⟩
 conv => whnf
 refine ⟨trivial,X.take 8,⟨rfl,rfl,by show 0 + 8 ≤ X.length; omega,by rw [List.length_take]; show min 8 X.length = 8; omega,rfl⟩,?_⟩
 conv => whnf
 refine ⟨fun g2 => ?_,fun g2 => ?_⟩
 · have g2 := strq_f g2
   have g3:X.take 8 ≠ opusHead := fun c => g2 (by rw [c]; rfl)
   conv => whnf
   refine ⟨.iface t (v 11),?_⟩
   conv => whnf
   refine ⟨he.get 11 (by decide) (by decide) (by decide),?_⟩
   conv => whnf
   refine ⟨rfl,?_⟩
   conv => whnf
   exact Or.inr ⟨[0,1],.t [.c (.val (.pointer none)),.c (.val (.iface t (v 11)))],[.dead,.dead],⟨rfl,⟨l0 _,l1 _,trivial⟩,rfl⟩,rfl,.inr ⟨(fun c => g3 c.2),11,(.inr (.inr (.inr rfl))),rfl,rfl⟩⟩
 have g2 := strq_t g2
 have hop:Byt opusHead := fun x hx => by
   simp only [opusHead,List.mem_cons,List.not_mem_nil,or_false] at hx
   omega
 have g3:X.take 8 = opusHead := str_inj (hX.take 8) hop (g2.trans rfl)
 have h8 := bt_at hX (i := 8) (by omega)
 have h9 := bt_at hX (i := 9) (by omega)
 have h18 := bt_at hX (i := 18) (by omega)
 conv => whnf
 refine ⟨⟨by decide,by omega⟩,?_⟩
 conv => whnf
 refine ⟨_,h8,?_⟩
 conv => whnf
 refine ⟨⟨by decide,by omega⟩,?_⟩
 conv => whnf
 refine ⟨_,h9,?_⟩
 conv => whnf
 refine ⟨⟨by decide,by decide,by omega⟩,.inl ⟨fun c1 _ _ => ?_,fun h => absurd h (by omega),fun h => absurd h (by omega)⟩⟩
 conv => whnf
 refine ⟨⟨by decide,by decide,by omega⟩,.inl ⟨fun c2 _ _ => ?_,fun h => absurd h (by omega),fun h => absurd h (by omega)⟩⟩
 conv => whnf
 refine ⟨⟨by decide,by decide,by omega⟩,.inl ⟨fun c3 _ _ => ?_,fun h => absurd h (by omega),fun h => absurd h (by omega)⟩⟩
 conv => whnf
 refine ⟨⟨by decide,by omega⟩,?_⟩
 conv => whnf
 refine ⟨_,h18,?_⟩
 conv => whnf
 refine CallsA.lift (H0 := [rowB X]) [1] rfl ⟨rfl,rfl,trivial⟩ rfl (le16W w0 hX (o := 10) (c := c1 - 10) (by omega)) ?_
 rintro _ _ ⟨rfl,rfl⟩
 refine ⟨?_,?_⟩
 · conv => whnf
   repeat' (first | exact trivial | exact ⟨rfl,rfl⟩ | exact ⟨_,h8,rfl,rfl⟩ | exact ⟨_,h9,rfl,rfl⟩ | exact ⟨_,h18,rfl,rfl⟩ | refine ⟨?_,?_⟩)
 conv => whnf
 refine CallsA.lift (H0 := [rowB X]) [1] rfl ⟨rfl,rfl,trivial⟩ rfl (le32W w0 hX (o := 12) (c := c2 - 12) (by omega)) ?_
 rintro _ _ ⟨rfl,rfl⟩
 refine ⟨?_,?_⟩
 · conv => whnf
   repeat' (first | exact trivial | exact ⟨rfl,rfl⟩ | exact ⟨_,h8,rfl,rfl⟩ | exact ⟨_,h9,rfl,rfl⟩ | exact ⟨_,h18,rfl,rfl⟩ | refine ⟨?_,?_⟩)
 conv => whnf
 refine CallsA.lift (H0 := [rowB X]) [1] rfl ⟨rfl,rfl,trivial⟩ rfl (le16W w0 hX (o := 16) (c := c3 - 16) (by omega)) ?_
 rintro _ _ ⟨rfl,rfl⟩
 refine ⟨?_,?_⟩
 · conv => whnf
   repeat' (first | exact trivial | exact ⟨rfl,rfl⟩ | exact ⟨_,h8,rfl,rfl⟩ | exact ⟨_,h9,rfl,rfl⟩ | exact ⟨_,h18,rfl,rfl⟩ | refine ⟨?_,?_⟩)
 conv => whnf
 refine ⟨trivial,?_⟩
 conv => whnf
 exact Or.inl (.inl ⟨⟨g1,g3⟩,rfl,rfl⟩)
end Go.Proofs.YtokkphocaloelaaGreatDoor

end
section
namespace Go.Proofs.YtokkphocaloelaaGreatDoor
open Go Go.Vc
set_option maxRecDepth 100000
set_option maxHeartbeats 8000000

def mpB (b:Nat) (X:List Int):Blk := .cells 102 [u8 X 19,u8 X 20,.vec b (X.length - 21),.val (.slice none 0 0)]
def d8:List Blk := [.dead,.dead,.dead,.dead,.dead,.dead,.dead,.dead]
theorem parseStreamW {w0:World} {t:TypeId} {v:Nat → Value} (he:Errs w0 t v) {X:List Int} (hX:Byt X) (_hXl:X.length ≤ 65536):CallsA Tryz.prog w0 142 [.c (.ptr 0 0),.c (.ptr 6 0),.c (.vec 7 X.length)] [rdB 1 3 4 5 false,.dead,.dead,.dead,.dead,.dead,ohB X,rowB X] fun r H =>
   (X.length = 21 + bt X 9 ∧ r = .o (.c (.val .nilIface)) ∧ H = [rdB 1 3 4 9 true,.dead,.dead,.dead,.dead,.dead,ohB X,rowB X,rowB (X.drop 21),mpB 8 X]) ∨
   (X.length ≠ 21 + bt X 9 ∧ r = .o (.c (.val (.iface t (v 10)))) ∧ H = d8) := by
 have hb9 := bt_lt hX 9
 refine callsA_of_ev c142_ ?_
 conv => whnf
 refine Or.inl ?_
 conv => whnf
 have hw:IntKind.i64.wrap (((21:Nat):Int) + IntKind.i64.wrap ((bt X 9:Nat):Int)) = ((21 + bt X 9:Nat):Int) := by rw [nwrapi (n := bt X 9) (by omega),nadd,nwrapi (by omega)]
 rw [hw]
 refine ⟨fun g => ?_,fun g => ?_⟩
 · have g := of_bne g
   conv => whnf
   refine ⟨.iface t (v 10),?_⟩
   conv => whnf
   refine ⟨he.get 10 (by decide) (by decide) (by decide),?_⟩
   conv => whnf
   refine ⟨rfl,?_⟩
   conv => whnf
   exact Or.inr ⟨[0,1,2,3,4,5,6,7],.o (.c (.val (.iface t (v 10)))),d8,⟨rfl,⟨l0 _,l1 _,l2 _,l3 _,l4 _,l5 _,l6 _,l7 _,trivial⟩,rfl⟩,rfl,.inr ⟨g,rfl,rfl⟩⟩
 have g := of_bne_f g
 have h19 := bt_at hX (i := 19) (by omega)
 have h20 := bt_at hX (i := 20) (by omega)
 conv => whnf
 refine ⟨⟨by decide,by omega⟩,?_⟩
 conv => whnf
 refine ⟨_,h19,?_⟩
 conv => whnf
 refine ⟨⟨by decide,by omega⟩,?_⟩
 conv => whnf
 refine ⟨_,h20,?_⟩
 conv => whnf
 refine ⟨⟨by decide,by omega,Int.le_refl _⟩,.inl ⟨fun c _ _ => ?_,fun hl => ?_,fun h h0 => by omega⟩⟩
 · conv => whnf
   refine ⟨by decide,Int,encI .u8,[],X.drop 21,fun _ => rfl,⟨rfl,rfl,by show 21 + (X.length - 21) ≤ X.length; omega,by rw [List.length_drop]; rfl,by show _ = flat (encI .u8) [] ((X.drop 21).take (X.length - 21)); rw [List.take_of_length_le (by rw [List.length_drop]; omega)]⟩,by rw [List.length_drop]; omega,by rw [List.length_drop]; omega,?_⟩
   conv => whnf
   refine ⟨?_,?_⟩
   · conv => whnf
     repeat' (first | exact trivial | exact ⟨rfl,rfl⟩ | exact ⟨_,h19,rfl,rfl⟩ | exact ⟨_,h20,rfl,rfl⟩ | refine ⟨?_,?_⟩)
   conv => whnf
   refine ⟨trivial,?_⟩
   conv => whnf
   refine ⟨trivial,?_⟩
   conv => whnf
   exact Or.inr ⟨[0,1,2,3,4,5,6,7,8,9],.o (.c (.val .nilIface)),[rdB 1 3 4 9 true,.dead,.dead,.dead,.dead,.dead,ohB X,rowB X,rowB (X.drop 21),mpB 8 X],⟨rfl,⟨rfl,rfl,l1 _,l2 _,l3 _,l4 _,l5 _,rfl,rfl,rfl,rfl,rfl,rfl,by
     show some (Blk.cells 102 [u8 X 19,u8 X 20,.vec 8 (X.drop 21).length,.val (.slice none 0 0)]) = some (Blk.cells 102 [u8 X 19,u8 X 20,.vec 8 (X.length - 21),.val (.slice none 0 0)])
     rw [List.length_drop],rfl,trivial⟩,rfl⟩,rfl,.inl ⟨g,rfl,rfl⟩⟩
 · have hl:X.length = 21 := by omega
   have hnil:X.drop 21 = [] := List.drop_of_length_le (by omega)
   conv => whnf
   refine ⟨by decide,Int,encI .u8,[],X.drop 21,fun _ => rfl,⟨rfl,rfl,by show 0 + 0 ≤ X.length; omega,by rw [hnil]; rfl,by rw [hnil]; rfl⟩,by rw [List.length_drop]; omega,by rw [List.length_drop]; omega,?_⟩
   conv => whnf
   refine ⟨?_,?_⟩
   · conv => whnf
     repeat' (first | exact trivial | exact ⟨rfl,rfl⟩ | exact ⟨_,h19,rfl,rfl⟩ | exact ⟨_,h20,rfl,rfl⟩ | refine ⟨?_,?_⟩)
   conv => whnf
   refine ⟨trivial,?_⟩
   conv => whnf
   refine ⟨trivial,?_⟩
   conv => whnf
   exact Or.inr ⟨[0,1,2,3,4,5,6,7,8,9],.o (.c (.val .nilIface)),[rdB 1 3 4 9 true,.dead,.dead,.dead,.dead,.dead,ohB X,rowB X,rowB (X.drop 21),mpB 8 X],⟨rfl,⟨rfl,rfl,l1 _,l2 _,l3 _,l4 _,l5 _,rfl,rfl,rfl,rfl,rfl,rfl,by
     show some (Blk.cells 102 [u8 X 19,u8 X 20,.vec 8 (X.drop 21).length,.val (.slice none 0 0)]) = some (Blk.cells 102 [u8 X 19,u8 X 20,.vec 8 (X.length - 21),.val (.slice none 0 0)])
     rw [List.length_drop],rfl,trivial⟩,rfl⟩,rfl,.inl ⟨g,rfl,rfl⟩⟩
def okM (X:List Int):Prop := (bt X 18 = 0 ∧ X.length = 19) ∨ (bt X 18 ≠ 0 ∧ X.length = 21 + bt X 9)
theorem parseMapW {w0:World} {t:TypeId} {v:Nat → Value} (he:Errs w0 t v) {X:List Int} (hX:Byt X) (hXl:X.length ≤ 65536) (hm:bt X 18 = 0 ∨ bt X 18 = 1 ∨ bt X 18 = 255):CallsA Tryz.prog w0 133 [.c (.ptr 0 0),.c (.ptr 6 0),.c (.vec 7 X.length)] [rdB 1 3 4 5 false,.dead,.dead,.dead,.dead,.dead,ohB X,rowB X] fun r H =>
   (bt X 18 = 0 ∧ X.length = 19 ∧ r = .o (.c (.val .nilIface)) ∧ H = [rdB 1 3 4 5 false,.dead,.dead,.dead,.dead,.dead,ohB X,rowB X]) ∨
   (bt X 18 ≠ 0 ∧ X.length = 21 + bt X 9 ∧ r = .o (.c (.val .nilIface)) ∧ H = [rdB 1 3 4 9 true,.dead,.dead,.dead,.dead,.dead,ohB X,rowB X,rowB (X.drop 21),mpB 8 X]) ∨
   (¬ okM X ∧ r = .o (.c (.val (.iface t (v 10)))) ∧ H = d8) := by
 refine callsA_of_ev c133_ ?_
 conv => whnf
 refine ⟨fun g => ?_,fun g => ?_⟩
 · have g:bt X 18 = 0 := beq_t (b := 0) g
   conv => whnf
   refine Or.inl ?_
   conv => whnf
   refine ⟨fun g1 => ?_,fun g1 => ?_⟩
   · have g1:X.length ≠ 19 := of_bne (b := 19) g1
     conv => whnf
     refine ⟨.iface t (v 10),?_⟩
     conv => whnf
     refine ⟨he.get 10 (by decide) (by decide) (by decide),?_⟩
     conv => whnf
     refine ⟨rfl,?_⟩
     conv => whnf
     exact Or.inr ⟨[0,1,2,3,4,5,6,7],.o (.c (.val (.iface t (v 10)))),d8,⟨rfl,⟨l0 _,l1 _,l2 _,l3 _,l4 _,l5 _,l6 _,l7 _,trivial⟩,rfl⟩,rfl,.inr (.inr ⟨fun h => h.elim (fun h => g1 h.2) (fun h => h.1 g),rfl,rfl⟩)⟩
   · have g1:X.length = 19 := of_bne_f (b := 19) g1
     conv => whnf
     exact Or.inl (.inl ⟨g,g1,rfl,rfl⟩)
 have g:bt X 18 ≠ 0 := beq_f (b := 0) g
 conv => whnf
 refine Or.inr ⟨Unit,fun _ => ⟨[(0,.o (.c (.ptr 0 0))),(1,.o (.c (.ptr 6 0))),(2,.o (.c (.vec 7 X.length))),(10,.o (.c (u8 X 18))),(23,.o (.c (.val (.bool true))))],[rdB 1 3 4 5 false,.dead,.dead,.dead,.dead,.dead,ohB X,rowB X]⟩,?_,fun _ => ?_⟩
 · conv => whnf
   refine ⟨fun g1 => ?_,fun g1 => ?_⟩
   · conv => whnf
     exact ⟨(),[0,1,2,3,4,5,6,7],⟨rfl,⟨rfl,rfl,l1 _,l2 _,l3 _,l4 _,l5 _,rfl,rfl,rfl,rfl,trivial⟩,rfl⟩,rfl,rfl,rfl,rfl,by show some (AV.o (.c (.val (.bool (((bt X 18:Nat):Int) == ((1:Nat):Int)))))) = some (AV.o (.c (.val (.bool true)))); rw [show (((bt X 18:Nat):Int) == ((1:Nat):Int)) = true from g1],trivial⟩
   · have g1:bt X 18 ≠ 1 := beq_f (b := 1) g1
     conv => whnf
     refine ⟨fun g2 => absurd (beq_t (a := bt X 18) (b := 2) g2) (by omega),fun _ => ?_⟩
     conv => whnf
     exact ⟨(),[0,1,2,3,4,5,6,7],⟨rfl,⟨rfl,rfl,l1 _,l2 _,l3 _,l4 _,l5 _,rfl,rfl,rfl,rfl,trivial⟩,rfl⟩,rfl,rfl,rfl,rfl,by show some (AV.o (.c (.val (.bool (((bt X 18:Nat):Int) == ((255:Nat):Int)))))) = some (AV.o (.c (.val (.bool true)))); rw [show bt X 18 = 255 by omega]; rfl,trivial⟩
 conv => whnf
 refine ⟨fun _ => ?_,fun g => zT g⟩
 conv => whnf
 refine CallsA.lift (H0 := [rdB 1 3 4 5 false,.dead,.dead,.dead,.dead,.dead,ohB X,rowB X]) [0,1,2,3,4,5,6,7] rfl ⟨rfl,rfl,l1 _,l2 _,l3 _,l4 _,l5 _,rfl,rfl,rfl,rfl,trivial⟩ rfl (parseStreamW he hX hXl) ?_
 rintro _ _ (⟨h1,rfl,rfl⟩ | ⟨h1,rfl,rfl⟩)
 · conv => whnf
   exact Or.inl (.inr (.inl ⟨g,h1,rfl,rfl⟩))
 · conv => whnf
   exact Or.inl (.inr (.inr ⟨fun h => h.elim (fun h => g h.1) (fun h => h1 h.2),rfl,rfl⟩))
end Go.Proofs.YtokkphocaloelaaGreatDoor

end
section
namespace Go.Proofs.YtokkphocaloelaaGreatDoor
open Go Go.Vc
set_option maxRecDepth 100000
set_option maxHeartbeats 8000000

theorem l8 (n:Nat):8 < n + 9 := by omega
structure Opens (L:List Int) (g:PgI) (rest:List Int) (k:Nat):Prop where
 pg:pageI L = some (g,rest)
 siz:g.sizes = lenI g.segs
 one:OneP g.segs k
 byt:Byt g.hdr
 len:g.hdr.length = 27
 sig:g.hdr.take 4 = [79,103,103,83]
 fla:bt g.hdr 5 = 2
 bX:Byt g.segs.flatten
 lX:g.segs.flatten.length ≤ 65536
 map:19 ≤ g.segs.flatten.length → g.segs.flatten.take 8 = opusHead → bt g.segs.flatten 18 = 0 ∨ bt g.segs.flatten 18 = 1 ∨ bt g.segs.flatten 18 = 255
def ps0:Blk := psB 6 7 .none none false 0 false
def rst8 (L:List Int) (s:Sr):List Blk := [rdB 1 3 4 5 false,srcB 2 L s,datB L,tabB tabL,ps0,.dead,.dead,.dead]
end Go.Proofs.YtokkphocaloelaaGreatDoor

end
section
namespace Go.Proofs.YtokkphocaloelaaGreatDoor
open Go Go.Vc
set_option maxRecDepth 100000
set_option maxHeartbeats 8000000

def eqL:List Blk → List Blk → Prop
 | [],[] => True
 | a :: r,b :: r' => a = b ∧ eqL r r'
 | _,_ => False
theorem eqL.eq:∀ {l l':List Blk},eqL l l' → l = l'
 | [],[],_ => rfl
 | _ :: _,_ :: _,h => by rw [h.1,eqL.eq h.2]
 | [],_ :: _,h => h.elim
 | _ :: _,[],h => h.elim
theorem CallsA.liftE {P:Program} {w0:World} {f:FuncId} {args0 args:List A1} {H0 H:List Blk} {R0 R:AV → List Blk → Prop} (σ:List Nat) (hσn:Vc.nodupB σ = true) (hemb:embH σ H H0 σ) (hargs:args0.map (A1.ren σ) = args) (h:CallsA P w0 f args0 H0 R0)
   (hR:∀ r0 H0',R0 r0 H0' → ∃ r1 H1,r0.ren (widen σ H H0') = r1 ∧ eqL (putAll σ (H0'.map (Blk.ren (widen σ H H0'))) H) H1 ∧ R r1 H1):CallsA P w0 f args H R :=
 CallsA.lift σ hσn hemb hargs h fun r0 H0' h0 => by
   obtain ⟨r1,H1,h1,h2,h3⟩ := hR r0 H0' h0
   rw [h1,h2.eq]
   exact h3
theorem CallsA.liftKE {P:Program} {w0:World} {f:FuncId} {args0 args:List A1} {H0 H:List Blk} {R0 R:AV → List Blk → Prop} (σ:List Nat) (Hd:List Blk) (hk:kill Hd H) (hσn:Vc.nodupB σ = true) (hemb:embH σ Hd H0 σ) (hargs:args0.map (A1.ren σ) = args) (h:CallsA P w0 f args0 H0 R0)
   (hR:∀ r0 H0',R0 r0 H0' → ∃ r1 H1,r0.ren (widen σ Hd H0') = r1 ∧ eqL (Go.Vc.wake Hd H (putAll σ (H0'.map (Blk.ren (widen σ Hd H0'))) Hd)) H1 ∧ R r1 H1):CallsA P w0 f args H R :=
 CallsA.liftK σ Hd hk hσn hemb hargs h fun r0 H0' h0 => by
   obtain ⟨r1,H1,h1,h2,h3⟩ := hR r0 H0' h0
   rw [h1,h2.eq]
   exact h3
theorem lk {i m:Nat} (n:Nat) (h:decide (i < n) = true) (e:n = m):i < m := e ▸ of_decide_eq_true h
end Go.Proofs.YtokkphocaloelaaGreatDoor

end
section
namespace Go.Proofs.YtokkphocaloelaaGreatDoor
open Go Go.Vc
set_option maxRecDepth 100000
set_option maxHeartbeats 8000000

def okX (X:List Int):Prop := 19 ≤ X.length ∧ X.take 8 = opusHead ∧ okM X
theorem d8emb {H:List Blk} (n:Nat) (h:H.length = 8 + n):0 < H.length ∧ 1 < H.length ∧ 2 < H.length ∧ 3 < H.length ∧ 4 < H.length ∧ 5 < H.length ∧ 6 < H.length ∧ 7 < H.length ∧ True := by refine ⟨?_,?_,?_,?_,?_,?_,?_,?_,trivial⟩ <;> omega
end Go.Proofs.YtokkphocaloelaaGreatDoor

end
section
namespace Go.Proofs.YtokkphocaloelaaGreatDoor
open Go Go.Vc
set_option maxRecDepth 100000
set_option maxHeartbeats 8000000

def pgEl (g:PgI):List ByteArray × Nat := (strsL g.segs,le ((g.hdr.drop 6).take 8))
inductive RdI (L:List Int):List (List ByteArray × Nat) → List Int → Prop
 | nil:RdI L [] L
 | snoc {yy r g r'}:RdI L yy r → pageI r = some (g,r') → RdI L (yy ++ [pgEl g]) r'
end Go.Proofs.YtokkphocaloelaaGreatDoor

end
section
namespace Go.Proofs.YtokkphocaloelaaGreatDoor
open Go Go.Vc
set_option maxRecDepth 100000
theorem c32_:compF Tryz.prog 32 = some (.mk (sr [gg 4 (.mov (.k (.string (ByteArray.mk #[]))))] (sr [gm 5 0,gm 6 1,gg 7 (.call 57 [(.t 5),(.t 6)]),gm 4 7] .ret)) 2 [(.t 4)]) := by kernel_rfl
theorem c57_:compF Tryz.prog 57 = some (.mk (sr [gg 4 (.mov (.k (.string (ByteArray.mk #[]))))] (.cut (sr [gm 10 1,gg 11 (.bin .eql (.t 10) (xk .i64 10))] (.cond (.t 11) (.cut (sr [gm 12 0,gg 13 (.bin .leq (xk .i64 0) (.t 12)),gm 14 13,gq 15 14 true (.mov (.t 0)),gq 16 14 true (.bin .lss (.t 15) (xk .i64 100)),gg 17 (.pick (.t 14) (.t 16) (.k (.bool false)))] (.cond (.t 17) (sr [gm 18 0,gg 19 (.call 98 [(.t 18)]),gm 4 19] .ret) .skip)) (sr [gg 5 (.ala 180 [(.int .u8 ((0:Nat):Int)),(.int .u8 ((0:Nat):Int)),(.int .u8 ((0:Nat):Int)),(.int .u8 ((0:Nat):Int)),(.int .u8 ((0:Nat):Int)),(.int .u8 ((0:Nat):Int)),(.int .u8 ((0:Nat):Int)),(.int .u8 ((0:Nat):Int)),(.int .u8 ((0:Nat):Int)),(.int .u8 ((0:Nat):Int)),(.int .u8 ((0:Nat):Int)),(.int .u8 ((0:Nat):Int)),(.int .u8 ((0:Nat):Int)),(.int .u8 ((0:Nat):Int)),(.int .u8 ((0:Nat):Int)),(.int .u8 ((0:Nat):Int)),(.int .u8 ((0:Nat):Int)),(.int .u8 ((0:Nat):Int)),(.int .u8 ((0:Nat):Int)),(.int .u8 ((0:Nat):Int)),(.int .u8 ((0:Nat):Int)),(.int .u8 ((0:Nat):Int)),(.int .u8 ((0:Nat):Int)),(.int .u8 ((0:Nat):Int))])] (sr [gm 20 0,gg 21 (.cvi .u64 (.t 20)),gm 6 21] (.cut (sr [gm 22 0,gg 23 (.bin .lss (.t 22) (xk .i64 0))] (.cond (.t 23) (.reg [gm 24 6,gg 25 (.un .neg (.t 24)),gm 6 25]) .skip)) (sr [gm 26 6,gg 27 (.call 99 [(.t 26)]),gm 7 27] (sr [gm 28 7,gg 29 (.bin .add (xk .i64 1) (.t 28)),gg 30 (.sla (.t 5) (some (xk .i64 1)) (some (.t 29)) 1 24),gm 31 6,gg 32 (.call 100 [(.t 30),(.t 31)])] (.cut (sr [gm 33 0,gg 34 (.bin .lss (.t 33) (xk .i64 0))] (.cond (.t 34) (sr [gg 35 (.iaa (.t 5) (xk .i64 0) 1 24),(G.mk none none (.st (.t 35) (xk .u8 45) 1))] (sr [gm 36 7,gg 37 (.bin .add (xk .i64 1) (.t 36)),gg 38 (.sll (.t 5) (some (.t 37)) 1 24),gg 39 (.b2s (.t 38)),gm 4 39] .ret)) .skip)) (sr [gm 40 7,gg 41 (.bin .add (xk .i64 1) (.t 40)),gg 42 (.sla (.t 5) (some (xk .i64 1)) (some (.t 41)) 1 24),gg 43 (.b2s (.t 42)),gm 4 43] .ret)))))))) .skip)) (sr [gm 45 0,gg 46 (.cvi .u64 (.t 45)),gm 47 1,gm 48 0,gg 49 (.bin .lss (.t 48) (xk .i64 0)),gg 50 (.call 101 [(.k (.slice none 0 0)),(.t 46),(.t 47),(.t 49),(.k (.bool false))]),gm 44 50,gg 51 (.ext (.t 44) 0),gg 52 (.ext (.t 44) 1),gm 8 51,gm 9 52] (sr [gm 53 9,gm 4 53] .ret)))) 2 [(.t 4)]) := by kernel_rfl
theorem c98_:compF Tryz.prog 98 = some (.mk (sr [gg 2 (.mov (.k (.string (ByteArray.mk #[]))))] (.cut (sr [gm 3 0,gg 4 (.bin .lss (.t 3) (xk .i64 10))] (.cond (.t 4) (sr [gm 5 0,gm 6 0,gg 7 (.bin .add (.t 6) (xk .i64 1)),gg 8 (.sls (.k (.string (ByteArray.mk #[48,49,50,51,52,53,54,55,56,57,97,98,99,100,101,102,103,104,105,106,107,108,109,110,111,112,113,114,115,116,117,118,119,120,121,122]))) (some (.t 5)) (some (.t 7))),gm 2 8] .ret) .skip)) (sr [gm 9 0,gg 10 (.bin .mul (.t 9) (xk .i64 2)),gm 11 0,gg 12 (.bin .mul (.t 11) (xk .i64 2)),gg 13 (.bin .add (.t 12) (xk .i64 2)),gg 14 (.sls (.k (.string (ByteArray.mk #[48,48,48,49,48,50,48,51,48,52,48,53,48,54,48,55,48,56,48,57,49,48,49,49,49,50,49,51,49,52,49,53,49,54,49,55,49,56,49,57,50,48,50,49,50,50,50,51,50,52,50,53,50,54,50,55,50,56,50,57,51,48,51,49,51,50,51,51,51,52,51,53,51,54,51,55,51,56,51,57,52,48,52,49,52,50,52,51,52,52,52,53,52,54,52,55,52,56,52,57,53,48,53,49,53,50,53,51,53,52,53,53,53,54,53,55,53,56,53,57,54,48,54,49,54,50,54,51,54,52,54,53,54,54,54,55,54,56,54,57,55,48,55,49,55,50,55,51,55,52,55,53,55,54,55,55,55,56,55,57,56,48,56,49,56,50,56,51,56,52,56,53,56,54,56,55,56,56,56,57,57,48,57,49,57,50,57,51,57,52,57,53,57,54,57,55,57,56,57,57]))) (some (.t 10)) (some (.t 13))),gm 2 14] .ret))) 1 [(.t 2)]) := by kernel_rfl
theorem c99_:compF Tryz.prog 99 = some (.mk (sr [gg 2 (.mov (xk .i64 0))] (sr [gm 4 0,gg 5 (.call 124 [(.t 4)]),gg 6 (.call 123 [(.t 5)]),gm 3 6] (sr [gm 7 3,gm 8 0,gm 9 3,gg 10 (.iaa (.k (.pointer (some (Addr.mk 6 0 none)))) (.t 9) 1 20),gg 11 (.ld (.t 10) none),gg 12 (.bin .geq (.t 8) (.t 11)),gg 13 (.call 125 [(.t 12)]),gg 14 (.bin .add (.t 7) (.t 13)),gm 2 14] .ret))) 1 [(.t 2)]) := by kernel_rfl
theorem c100_:compF Tryz.prog 100 = some (.mk (sr [gm 17 0,gg 18 (.len false (.t 17)),gm 4 18] (.cut (.block 0 (.loop (.seq (sr [gm 19 4,gg 20 (.bin .geq (.t 19) (xk .i64 8))] (.cond (.t 20) .skip (.exit 0))) (.block 1 (sr [gm 21 1,gg 22 (.bik .rem .u64 (.t 21) 100000000),gg 23 (.cvi .u32 (.t 22)),gm 5 23] (sr [gm 24 1,gg 25 (.bik .quo .u64 (.t 24) 100000000),gm 1 25] (sr [gm 26 5,gg 27 (.bik .quo .u32 (.t 26) 10000),gm 28 5,gg 29 (.bik .rem .u32 (.t 28) 10000),gm 6 27,gm 7 29] (sr [gm 30 7,gg 31 (.bik .quo .u32 (.t 30) 100),gg 32 (.bin .mul (.t 31) (xk .u32 2)),gm 33 7,gg 34 (.bik .rem .u32 (.t 33) 100),gg 35 (.bin .mul (.t 34) (xk .u32 2)),gm 8 32,gm 9 35] (sr [gm 36 6,gg 37 (.bik .quo .u32 (.t 36) 100),gg 38 (.bin .mul (.t 37) (xk .u32 2)),gm 39 6,gg 40 (.bik .rem .u32 (.t 39) 100),gg 41 (.bin .mul (.t 40) (xk .u32 2)),gm 10 38,gm 11 41] (.seq (.drw [(.mk (gm 42 0) 0 true []),(.mk (gm 43 4) 1 true []),(.mk (gg 44 (.bin .sub (.t 43) (xk .i64 1))) 2 true []),(.mk (gm 45 0) 3 true []),(.mk (gm 46 4) 4 true []),(.mk (gg 47 (.bin .sub (.t 46) (xk .i64 2))) 5 true []),(.mk (gm 48 9) 6 true []),(.mk (gg 49 (.bin .add (.t 48) (xk .u32 1))) 7 true []),(.mk (gg 50 (.si (.k (.string (ByteArray.mk #[48,48,48,49,48,50,48,51,48,52,48,53,48,54,48,55,48,56,48,57,49,48,49,49,49,50,49,51,49,52,49,53,49,54,49,55,49,56,49,57,50,48,50,49,50,50,50,51,50,52,50,53,50,54,50,55,50,56,50,57,51,48,51,49,51,50,51,51,51,52,51,53,51,54,51,55,51,56,51,57,52,48,52,49,52,50,52,51,52,52,52,53,52,54,52,55,52,56,52,57,53,48,53,49,53,50,53,51,53,52,53,53,53,54,53,55,53,56,53,57,54,48,54,49,54,50,54,51,54,52,54,53,54,54,54,55,54,56,54,57,55,48,55,49,55,50,55,51,55,52,55,53,55,54,55,55,55,56,55,57,56,48,56,49,56,50,56,51,56,52,56,53,56,54,56,55,56,56,56,57,57,48,57,49,57,50,57,51,57,52,57,53,57,54,57,55,57,56,57,57]))) (.t 49))) 8 true []),(.mk (gm 51 9) 9 true []),(.mk (gg 52 (.si (.k (.string (ByteArray.mk #[48,48,48,49,48,50,48,51,48,52,48,53,48,54,48,55,48,56,48,57,49,48,49,49,49,50,49,51,49,52,49,53,49,54,49,55,49,56,49,57,50,48,50,49,50,50,50,51,50,52,50,53,50,54,50,55,50,56,50,57,51,48,51,49,51,50,51,51,51,52,51,53,51,54,51,55,51,56,51,57,52,48,52,49,52,50,52,51,52,52,52,53,52,54,52,55,52,56,52,57,53,48,53,49,53,50,53,51,53,52,53,53,53,54,53,55,53,56,53,57,54,48,54,49,54,50,54,51,54,52,54,53,54,54,54,55,54,56,54,57,55,48,55,49,55,50,55,51,55,52,55,53,55,54,55,55,55,56,55,57,56,48,56,49,56,50,56,51,56,52,56,53,56,54,56,55,56,56,56,57,57,48,57,49,57,50,57,51,57,52,57,53,57,54,57,55,57,56,57,57]))) (.t 51))) 10 true []),(.mk (gg 53 (.ia (.t 42) (.t 44) 1)) 11 true []),(.mk (G.mk none none (.st (.t 53) (.t 50) 1)) 12 false []),(.mk (gg 54 (.ia (.t 45) (.t 47) 1)) 13 true []),(.mk (G.mk none none (.st (.t 54) (.t 52) 1)) 14 false [])]) (.seq (.drw [(.mk (gm 55 0) 0 true []),(.mk (gm 56 4) 1 true []),(.mk (gg 57 (.bin .sub (.t 56) (xk .i64 3))) 2 true []),(.mk (gm 58 0) 3 true []),(.mk (gm 59 4) 4 true []),(.mk (gg 60 (.bin .sub (.t 59) (xk .i64 4))) 5 true []),(.mk (gm 61 8) 6 true []),(.mk (gg 62 (.bin .add (.t 61) (xk .u32 1))) 7 true []),(.mk (gg 63 (.si (.k (.string (ByteArray.mk #[48,48,48,49,48,50,48,51,48,52,48,53,48,54,48,55,48,56,48,57,49,48,49,49,49,50,49,51,49,52,49,53,49,54,49,55,49,56,49,57,50,48,50,49,50,50,50,51,50,52,50,53,50,54,50,55,50,56,50,57,51,48,51,49,51,50,51,51,51,52,51,53,51,54,51,55,51,56,51,57,52,48,52,49,52,50,52,51,52,52,52,53,52,54,52,55,52,56,52,57,53,48,53,49,53,50,53,51,53,52,53,53,53,54,53,55,53,56,53,57,54,48,54,49,54,50,54,51,54,52,54,53,54,54,54,55,54,56,54,57,55,48,55,49,55,50,55,51,55,52,55,53,55,54,55,55,55,56,55,57,56,48,56,49,56,50,56,51,56,52,56,53,56,54,56,55,56,56,56,57,57,48,57,49,57,50,57,51,57,52,57,53,57,54,57,55,57,56,57,57]))) (.t 62))) 8 true []),(.mk (gm 64 8) 9 true []),(.mk (gg 65 (.si (.k (.string (ByteArray.mk #[48,48,48,49,48,50,48,51,48,52,48,53,48,54,48,55,48,56,48,57,49,48,49,49,49,50,49,51,49,52,49,53,49,54,49,55,49,56,49,57,50,48,50,49,50,50,50,51,50,52,50,53,50,54,50,55,50,56,50,57,51,48,51,49,51,50,51,51,51,52,51,53,51,54,51,55,51,56,51,57,52,48,52,49,52,50,52,51,52,52,52,53,52,54,52,55,52,56,52,57,53,48,53,49,53,50,53,51,53,52,53,53,53,54,53,55,53,56,53,57,54,48,54,49,54,50,54,51,54,52,54,53,54,54,54,55,54,56,54,57,55,48,55,49,55,50,55,51,55,52,55,53,55,54,55,55,55,56,55,57,56,48,56,49,56,50,56,51,56,52,56,53,56,54,56,55,56,56,56,57,57,48,57,49,57,50,57,51,57,52,57,53,57,54,57,55,57,56,57,57]))) (.t 64))) 10 true []),(.mk (gg 66 (.ia (.t 55) (.t 57) 1)) 11 true []),(.mk (G.mk none none (.st (.t 66) (.t 63) 1)) 12 false []),(.mk (gg 67 (.ia (.t 58) (.t 60) 1)) 13 true []),(.mk (G.mk none none (.st (.t 67) (.t 65) 1)) 14 false [])]) (.seq (.drw [(.mk (gm 68 0) 0 true []),(.mk (gm 69 4) 1 true []),(.mk (gg 70 (.bin .sub (.t 69) (xk .i64 5))) 2 true []),(.mk (gm 71 0) 3 true []),(.mk (gm 72 4) 4 true []),(.mk (gg 73 (.bin .sub (.t 72) (xk .i64 6))) 5 true []),(.mk (gm 74 11) 6 true []),(.mk (gg 75 (.bin .add (.t 74) (xk .u32 1))) 7 true []),(.mk (gg 76 (.si (.k (.string (ByteArray.mk #[48,48,48,49,48,50,48,51,48,52,48,53,48,54,48,55,48,56,48,57,49,48,49,49,49,50,49,51,49,52,49,53,49,54,49,55,49,56,49,57,50,48,50,49,50,50,50,51,50,52,50,53,50,54,50,55,50,56,50,57,51,48,51,49,51,50,51,51,51,52,51,53,51,54,51,55,51,56,51,57,52,48,52,49,52,50,52,51,52,52,52,53,52,54,52,55,52,56,52,57,53,48,53,49,53,50,53,51,53,52,53,53,53,54,53,55,53,56,53,57,54,48,54,49,54,50,54,51,54,52,54,53,54,54,54,55,54,56,54,57,55,48,55,49,55,50,55,51,55,52,55,53,55,54,55,55,55,56,55,57,56,48,56,49,56,50,56,51,56,52,56,53,56,54,56,55,56,56,56,57,57,48,57,49,57,50,57,51,57,52,57,53,57,54,57,55,57,56,57,57]))) (.t 75))) 8 true []),(.mk (gm 77 11) 9 true []),(.mk (gg 78 (.si (.k (.string (ByteArray.mk #[48,48,48,49,48,50,48,51,48,52,48,53,48,54,48,55,48,56,48,57,49,48,49,49,49,50,49,51,49,52,49,53,49,54,49,55,49,56,49,57,50,48,50,49,50,50,50,51,50,52,50,53,50,54,50,55,50,56,50,57,51,48,51,49,51,50,51,51,51,52,51,53,51,54,51,55,51,56,51,57,52,48,52,49,52,50,52,51,52,52,52,53,52,54,52,55,52,56,52,57,53,48,53,49,53,50,53,51,53,52,53,53,53,54,53,55,53,56,53,57,54,48,54,49,54,50,54,51,54,52,54,53,54,54,54,55,54,56,54,57,55,48,55,49,55,50,55,51,55,52,55,53,55,54,55,55,55,56,55,57,56,48,56,49,56,50,56,51,56,52,56,53,56,54,56,55,56,56,56,57,57,48,57,49,57,50,57,51,57,52,57,53,57,54,57,55,57,56,57,57]))) (.t 77))) 10 true []),(.mk (gg 79 (.ia (.t 68) (.t 70) 1)) 11 true []),(.mk (G.mk none none (.st (.t 79) (.t 76) 1)) 12 false []),(.mk (gg 80 (.ia (.t 71) (.t 73) 1)) 13 true []),(.mk (G.mk none none (.st (.t 80) (.t 78) 1)) 14 false [])]) (.seq (.drw [(.mk (gm 81 0) 0 true []),(.mk (gm 82 4) 1 true []),(.mk (gg 83 (.bin .sub (.t 82) (xk .i64 7))) 2 true []),(.mk (gm 84 0) 3 true []),(.mk (gm 85 4) 4 true []),(.mk (gg 86 (.bin .sub (.t 85) (xk .i64 8))) 5 true []),(.mk (gm 87 10) 6 true []),(.mk (gg 88 (.bin .add (.t 87) (xk .u32 1))) 7 true []),(.mk (gg 89 (.si (.k (.string (ByteArray.mk #[48,48,48,49,48,50,48,51,48,52,48,53,48,54,48,55,48,56,48,57,49,48,49,49,49,50,49,51,49,52,49,53,49,54,49,55,49,56,49,57,50,48,50,49,50,50,50,51,50,52,50,53,50,54,50,55,50,56,50,57,51,48,51,49,51,50,51,51,51,52,51,53,51,54,51,55,51,56,51,57,52,48,52,49,52,50,52,51,52,52,52,53,52,54,52,55,52,56,52,57,53,48,53,49,53,50,53,51,53,52,53,53,53,54,53,55,53,56,53,57,54,48,54,49,54,50,54,51,54,52,54,53,54,54,54,55,54,56,54,57,55,48,55,49,55,50,55,51,55,52,55,53,55,54,55,55,55,56,55,57,56,48,56,49,56,50,56,51,56,52,56,53,56,54,56,55,56,56,56,57,57,48,57,49,57,50,57,51,57,52,57,53,57,54,57,55,57,56,57,57]))) (.t 88))) 8 true []),(.mk (gm 90 10) 9 true []),(.mk (gg 91 (.si (.k (.string (ByteArray.mk #[48,48,48,49,48,50,48,51,48,52,48,53,48,54,48,55,48,56,48,57,49,48,49,49,49,50,49,51,49,52,49,53,49,54,49,55,49,56,49,57,50,48,50,49,50,50,50,51,50,52,50,53,50,54,50,55,50,56,50,57,51,48,51,49,51,50,51,51,51,52,51,53,51,54,51,55,51,56,51,57,52,48,52,49,52,50,52,51,52,52,52,53,52,54,52,55,52,56,52,57,53,48,53,49,53,50,53,51,53,52,53,53,53,54,53,55,53,56,53,57,54,48,54,49,54,50,54,51,54,52,54,53,54,54,54,55,54,56,54,57,55,48,55,49,55,50,55,51,55,52,55,53,55,54,55,55,55,56,55,57,56,48,56,49,56,50,56,51,56,52,56,53,56,54,56,55,56,56,56,57,57,48,57,49,57,50,57,51,57,52,57,53,57,54,57,55,57,56,57,57]))) (.t 90))) 10 true []),(.mk (gg 92 (.ia (.t 81) (.t 83) 1)) 11 true []),(.mk (G.mk none none (.st (.t 92) (.t 89) 1)) 12 false []),(.mk (gg 93 (.ia (.t 84) (.t 86) 1)) 13 true []),(.mk (G.mk none none (.st (.t 93) (.t 91) 1)) 14 false [])]) (.reg [gm 94 4,gg 95 (.bin .sub (.t 94) (xk .i64 8)),gm 4 95])))))))))))))) (sr [gm 96 1,gg 97 (.cvi .u32 (.t 96)),gm 12 97] (.cut (sr [gm 98 4,gg 99 (.bin .geq (.t 98) (xk .i64 4))] (.cond (.t 99) (sr [gm 100 12,gg 101 (.bik .rem .u32 (.t 100) 10000),gm 13 101] (sr [gm 102 12,gg 103 (.bik .quo .u32 (.t 102) 10000),gm 12 103] (sr [gm 104 13,gg 105 (.bik .quo .u32 (.t 104) 100),gg 106 (.bin .mul (.t 105) (xk .u32 2)),gm 107 13,gg 108 (.bik .rem .u32 (.t 107) 100),gg 109 (.bin .mul (.t 108) (xk .u32 2)),gm 14 106,gm 15 109] (.seq (.drw [(.mk (gm 110 0) 0 true []),(.mk (gm 111 4) 1 true []),(.mk (gg 112 (.bin .sub (.t 111) (xk .i64 1))) 2 true []),(.mk (gm 113 0) 3 true []),(.mk (gm 114 4) 4 true []),(.mk (gg 115 (.bin .sub (.t 114) (xk .i64 2))) 5 true []),(.mk (gm 116 15) 6 true []),(.mk (gg 117 (.bin .add (.t 116) (xk .u32 1))) 7 true []),(.mk (gg 118 (.si (.k (.string (ByteArray.mk #[48,48,48,49,48,50,48,51,48,52,48,53,48,54,48,55,48,56,48,57,49,48,49,49,49,50,49,51,49,52,49,53,49,54,49,55,49,56,49,57,50,48,50,49,50,50,50,51,50,52,50,53,50,54,50,55,50,56,50,57,51,48,51,49,51,50,51,51,51,52,51,53,51,54,51,55,51,56,51,57,52,48,52,49,52,50,52,51,52,52,52,53,52,54,52,55,52,56,52,57,53,48,53,49,53,50,53,51,53,52,53,53,53,54,53,55,53,56,53,57,54,48,54,49,54,50,54,51,54,52,54,53,54,54,54,55,54,56,54,57,55,48,55,49,55,50,55,51,55,52,55,53,55,54,55,55,55,56,55,57,56,48,56,49,56,50,56,51,56,52,56,53,56,54,56,55,56,56,56,57,57,48,57,49,57,50,57,51,57,52,57,53,57,54,57,55,57,56,57,57]))) (.t 117))) 8 true []),(.mk (gm 119 15) 9 true []),(.mk (gg 120 (.si (.k (.string (ByteArray.mk #[48,48,48,49,48,50,48,51,48,52,48,53,48,54,48,55,48,56,48,57,49,48,49,49,49,50,49,51,49,52,49,53,49,54,49,55,49,56,49,57,50,48,50,49,50,50,50,51,50,52,50,53,50,54,50,55,50,56,50,57,51,48,51,49,51,50,51,51,51,52,51,53,51,54,51,55,51,56,51,57,52,48,52,49,52,50,52,51,52,52,52,53,52,54,52,55,52,56,52,57,53,48,53,49,53,50,53,51,53,52,53,53,53,54,53,55,53,56,53,57,54,48,54,49,54,50,54,51,54,52,54,53,54,54,54,55,54,56,54,57,55,48,55,49,55,50,55,51,55,52,55,53,55,54,55,55,55,56,55,57,56,48,56,49,56,50,56,51,56,52,56,53,56,54,56,55,56,56,56,57,57,48,57,49,57,50,57,51,57,52,57,53,57,54,57,55,57,56,57,57]))) (.t 119))) 10 true []),(.mk (gg 121 (.ia (.t 110) (.t 112) 1)) 11 true []),(.mk (G.mk none none (.st (.t 121) (.t 118) 1)) 12 false []),(.mk (gg 122 (.ia (.t 113) (.t 115) 1)) 13 true []),(.mk (G.mk none none (.st (.t 122) (.t 120) 1)) 14 false [])]) (.seq (.drw [(.mk (gm 123 0) 0 true []),(.mk (gm 124 4) 1 true []),(.mk (gg 125 (.bin .sub (.t 124) (xk .i64 3))) 2 true []),(.mk (gm 126 0) 3 true []),(.mk (gm 127 4) 4 true []),(.mk (gg 128 (.bin .sub (.t 127) (xk .i64 4))) 5 true []),(.mk (gm 129 14) 6 true []),(.mk (gg 130 (.bin .add (.t 129) (xk .u32 1))) 7 true []),(.mk (gg 131 (.si (.k (.string (ByteArray.mk #[48,48,48,49,48,50,48,51,48,52,48,53,48,54,48,55,48,56,48,57,49,48,49,49,49,50,49,51,49,52,49,53,49,54,49,55,49,56,49,57,50,48,50,49,50,50,50,51,50,52,50,53,50,54,50,55,50,56,50,57,51,48,51,49,51,50,51,51,51,52,51,53,51,54,51,55,51,56,51,57,52,48,52,49,52,50,52,51,52,52,52,53,52,54,52,55,52,56,52,57,53,48,53,49,53,50,53,51,53,52,53,53,53,54,53,55,53,56,53,57,54,48,54,49,54,50,54,51,54,52,54,53,54,54,54,55,54,56,54,57,55,48,55,49,55,50,55,51,55,52,55,53,55,54,55,55,55,56,55,57,56,48,56,49,56,50,56,51,56,52,56,53,56,54,56,55,56,56,56,57,57,48,57,49,57,50,57,51,57,52,57,53,57,54,57,55,57,56,57,57]))) (.t 130))) 8 true []),(.mk (gm 132 14) 9 true []),(.mk (gg 133 (.si (.k (.string (ByteArray.mk #[48,48,48,49,48,50,48,51,48,52,48,53,48,54,48,55,48,56,48,57,49,48,49,49,49,50,49,51,49,52,49,53,49,54,49,55,49,56,49,57,50,48,50,49,50,50,50,51,50,52,50,53,50,54,50,55,50,56,50,57,51,48,51,49,51,50,51,51,51,52,51,53,51,54,51,55,51,56,51,57,52,48,52,49,52,50,52,51,52,52,52,53,52,54,52,55,52,56,52,57,53,48,53,49,53,50,53,51,53,52,53,53,53,54,53,55,53,56,53,57,54,48,54,49,54,50,54,51,54,52,54,53,54,54,54,55,54,56,54,57,55,48,55,49,55,50,55,51,55,52,55,53,55,54,55,55,55,56,55,57,56,48,56,49,56,50,56,51,56,52,56,53,56,54,56,55,56,56,56,57,57,48,57,49,57,50,57,51,57,52,57,53,57,54,57,55,57,56,57,57]))) (.t 132))) 10 true []),(.mk (gg 134 (.ia (.t 123) (.t 125) 1)) 11 true []),(.mk (G.mk none none (.st (.t 134) (.t 131) 1)) 12 false []),(.mk (gg 135 (.ia (.t 126) (.t 128) 1)) 13 true []),(.mk (G.mk none none (.st (.t 135) (.t 133) 1)) 14 false [])]) (.reg [gm 136 4,gg 137 (.bin .sub (.t 136) (xk .i64 4)),gm 4 137])))))) .skip)) (.cut (sr [gm 138 4,gg 139 (.bin .geq (.t 138) (xk .i64 2))] (.cond (.t 139) (sr [gm 140 12,gg 141 (.bik .rem .u32 (.t 140) 100),gg 142 (.bin .mul (.t 141) (xk .u32 2)),gm 16 142] (sr [gm 143 12,gg 144 (.bik .quo .u32 (.t 143) 100),gm 12 144] (.seq (.drw [(.mk (gm 145 0) 0 true []),(.mk (gm 146 4) 1 true []),(.mk (gg 147 (.bin .sub (.t 146) (xk .i64 1))) 2 true []),(.mk (gm 148 0) 3 true []),(.mk (gm 149 4) 4 true []),(.mk (gg 150 (.bin .sub (.t 149) (xk .i64 2))) 5 true []),(.mk (gm 151 16) 6 true []),(.mk (gg 152 (.bin .add (.t 151) (xk .u32 1))) 7 true []),(.mk (gg 153 (.si (.k (.string (ByteArray.mk #[48,48,48,49,48,50,48,51,48,52,48,53,48,54,48,55,48,56,48,57,49,48,49,49,49,50,49,51,49,52,49,53,49,54,49,55,49,56,49,57,50,48,50,49,50,50,50,51,50,52,50,53,50,54,50,55,50,56,50,57,51,48,51,49,51,50,51,51,51,52,51,53,51,54,51,55,51,56,51,57,52,48,52,49,52,50,52,51,52,52,52,53,52,54,52,55,52,56,52,57,53,48,53,49,53,50,53,51,53,52,53,53,53,54,53,55,53,56,53,57,54,48,54,49,54,50,54,51,54,52,54,53,54,54,54,55,54,56,54,57,55,48,55,49,55,50,55,51,55,52,55,53,55,54,55,55,55,56,55,57,56,48,56,49,56,50,56,51,56,52,56,53,56,54,56,55,56,56,56,57,57,48,57,49,57,50,57,51,57,52,57,53,57,54,57,55,57,56,57,57]))) (.t 152))) 8 true []),(.mk (gm 154 16) 9 true []),(.mk (gg 155 (.si (.k (.string (ByteArray.mk #[48,48,48,49,48,50,48,51,48,52,48,53,48,54,48,55,48,56,48,57,49,48,49,49,49,50,49,51,49,52,49,53,49,54,49,55,49,56,49,57,50,48,50,49,50,50,50,51,50,52,50,53,50,54,50,55,50,56,50,57,51,48,51,49,51,50,51,51,51,52,51,53,51,54,51,55,51,56,51,57,52,48,52,49,52,50,52,51,52,52,52,53,52,54,52,55,52,56,52,57,53,48,53,49,53,50,53,51,53,52,53,53,53,54,53,55,53,56,53,57,54,48,54,49,54,50,54,51,54,52,54,53,54,54,54,55,54,56,54,57,55,48,55,49,55,50,55,51,55,52,55,53,55,54,55,55,55,56,55,57,56,48,56,49,56,50,56,51,56,52,56,53,56,54,56,55,56,56,56,57,57,48,57,49,57,50,57,51,57,52,57,53,57,54,57,55,57,56,57,57]))) (.t 154))) 10 true []),(.mk (gg 156 (.ia (.t 145) (.t 147) 1)) 11 true []),(.mk (G.mk none none (.st (.t 156) (.t 153) 1)) 12 false []),(.mk (gg 157 (.ia (.t 148) (.t 150) 1)) 13 true []),(.mk (G.mk none none (.st (.t 157) (.t 155) 1)) 14 false [])]) (.reg [gm 158 4,gg 159 (.bin .sub (.t 158) (xk .i64 2)),gm 4 159])))) .skip)) (sr [gm 160 4,gg 161 (.bin .gtr (.t 160) (xk .i64 0))] (.cond (.t 161) (.reg [gm 162 0,gm 163 12,gg 164 (.bin .add (xk .u32 48) (.t 163)),gg 165 (.cvi .u8 (.t 164)),gg 166 (.ia (.t 162) (xk .i64 0) 1),(G.mk none none (.st (.t 166) (.t 165) 1))]) .skip))))))) 2 []) := by kernel_rfl
theorem c123_:compF Tryz.prog 123 = some (.mk (sr [gg 2 (.mov (xk .i64 0))] (sr [gm 3 0,gg 4 (.bin .mul (.t 3) (xk .i64 78913)),gg 5 (.bik .shr .u64 (.t 4) 18),gm 2 5] .ret)) 1 [(.t 2)]) := by kernel_rfl
theorem c124_:compF Tryz.prog 124 = some (.mk (sr [gg 2 (.mov (xk .i64 0))] (.cut (sr [gm 3 0,gg 4 (.bin .geq (.t 3) (xk .u64 4294967296))] (.cond (.t 4) (sr [gm 5 0,gg 6 (.bik .shr .u64 (.t 5) 32),gm 0 6] (.reg [gg 2 (.mov (xk .i64 32))])) .skip)) (.cut (sr [gm 7 0,gg 8 (.bin .geq (.t 7) (xk .u64 65536))] (.cond (.t 8) (sr [gm 9 0,gg 10 (.bik .shr .u64 (.t 9) 16),gm 0 10] (.reg [gm 11 2,gg 12 (.bin .add (.t 11) (xk .i64 16)),gm 2 12])) .skip)) (.cut (sr [gm 13 0,gg 14 (.bin .geq (.t 13) (xk .u64 256))] (.cond (.t 14) (sr [gm 15 0,gg 16 (.bik .shr .u64 (.t 15) 8),gm 0 16] (.reg [gm 17 2,gg 18 (.bin .add (.t 17) (xk .i64 8)),gm 2 18])) .skip)) (sr [gm 19 2,gm 20 0,gg 21 (.cvi .u8 (.t 20)),gg 22 (.si (.k (.string (ByteArray.mk #[0,1,2,2,3,3,3,3,4,4,4,4,4,4,4,4,5,5,5,5,5,5,5,5,5,5,5,5,5,5,5,5,6,6,6,6,6,6,6,6,6,6,6,6,6,6,6,6,6,6,6,6,6,6,6,6,6,6,6,6,6,6,6,6,7,7,7,7,7,7,7,7,7,7,7,7,7,7,7,7,7,7,7,7,7,7,7,7,7,7,7,7,7,7,7,7,7,7,7,7,7,7,7,7,7,7,7,7,7,7,7,7,7,7,7,7,7,7,7,7,7,7,7,7,7,7,7,7,8,8,8,8,8,8,8,8,8,8,8,8,8,8,8,8,8,8,8,8,8,8,8,8,8,8,8,8,8,8,8,8,8,8,8,8,8,8,8,8,8,8,8,8,8,8,8,8,8,8,8,8,8,8,8,8,8,8,8,8,8,8,8,8,8,8,8,8,8,8,8,8,8,8,8,8,8,8,8,8,8,8,8,8,8,8,8,8,8,8,8,8,8,8,8,8,8,8,8,8,8,8,8,8,8,8,8,8,8,8,8,8,8,8,8,8,8,8,8,8,8,8,8,8,8,8,8,8]))) (.t 21)),gg 23 (.cvi .i64 (.t 22)),gg 24 (.bin .add (.t 19) (.t 23)),gm 2 24] .ret))))) 1 [(.t 2)]) := by kernel_rfl
theorem c125_:compF Tryz.prog 125 = some (.mk (sr [gg 2 (.mov (xk .i64 0))] (.cut (sr [gm 3 0] (.cond (.t 3) (sr [gg 2 (.mov (xk .i64 1))] .ret) .skip)) (sr [gg 2 (.mov (xk .i64 0))] .ret))) 1 [(.t 2)]) := by kernel_rfl
end Go.Proofs.YtokkphocaloelaaGreatDoor

end
section
namespace Go.Proofs.YtokkphocaloelaaGreatDoor
open Go Go.Vc
set_option maxRecDepth 100000
set_option maxHeartbeats 8000000

def digs (n u:Nat):List Int := (List.range n).map fun i => ((48 + u / 10 ^ (n - 1 - i) % 10:Nat):Int)
theorem digs_len (n u:Nat):(digs n u).length = n := by unfold digs; rw [List.length_map,List.length_range]
theorem digs_get {n u i:Nat} (h:i < n):(digs n u)[i]? = some ((48 + u / 10 ^ (n - 1 - i) % 10:Nat):Int) := by
 unfold digs
 rw [List.getElem?_map,List.getElem?_range h]
 rfl
def part (xs D:List Int) (o m:Nat):List Int := xs.take (o + m) ++ (D.drop m ++ xs.drop (o + D.length))
theorem part_all (xs D:List Int) (o:Nat):part xs D o D.length = xs := by
 unfold part
 rw [List.drop_length,List.nil_append,List.take_append_drop]
theorem part_len (xs D:List Int) (o m:Nat) (h:o + D.length ≤ xs.length) (hm:m ≤ D.length):(part xs D o m).length = xs.length := by
 unfold part
 rw [List.length_append,List.length_append,List.length_take,List.length_drop,List.length_drop]
 omega
theorem part_set {xs D:List Int} {o m:Nat} {y:Int} (h:o + D.length ≤ xs.length) (hm:m < D.length) (hy:D[m]? = some y):(part xs D o (m + 1)).set (o + m) y = part xs D o m := by
 unfold part
 apply List.ext_getElem?
 intro i
 have hl:(xs.take (o + (m + 1))).length = o + (m + 1) := by rw [List.length_take]; omega
 have hl2:(xs.take (o + m)).length = o + m := by rw [List.length_take]; omega
 rw [List.getElem?_set]
 split
 · rename_i c
   subst c
   rw [if_pos (by rw [List.length_append,hl]; omega),List.getElem?_append_right (by omega),hl2,Nat.sub_self,List.getElem?_append_left (by rw [List.length_drop]; omega),List.getElem?_drop,Nat.add_zero,hy]
 · rcases Nat.lt_or_ge i (o + m) with c | c
   · rw [List.getElem?_append_left (by omega),List.getElem?_append_left (by omega),List.getElem?_take,List.getElem?_take,if_pos (by omega),if_pos c]
   · rw [List.getElem?_append_right (l₁ := xs.take (o + (m + 1))) (by omega),List.getElem?_append_right (l₁ := xs.take (o + m)) (by omega),hl,hl2]
     rw [show D.drop m = y :: D.drop (m + 1) by rw [List.drop_eq_getElem_cons hm]; congr 1; rw [List.getElem?_eq_getElem hm] at hy; exact Option.some.inj hy]
     rw [show i - (o + m) = (i - (o + (m + 1))) + 1 by omega,List.cons_append,List.getElem?_cons_succ]
theorem part_get {xs D:List Int} {o m j:Nat} (h:o + D.length ≤ xs.length) (hj:o + j < xs.length) (hm:m ≤ D.length):∃ x,(part xs D o m)[o + j]? = some x :=
 ⟨_,List.getElem?_eq_getElem (by rw [part_len xs D o m h hm]; exact hj)⟩
def smalls:ByteArray := ByteArray.mk #[48,48,48,49,48,50,48,51,48,52,48,53,48,54,48,55,48,56,48,57,49,48,49,49,49,50,49,51,49,52,49,53,49,54,49,55,49,56,49,57,50,48,50,49,50,50,50,51,50,52,50,53,50,54,50,55,50,56,50,57,51,48,51,49,51,50,51,51,51,52,51,53,51,54,51,55,51,56,51,57,52,48,52,49,52,50,52,51,52,52,52,53,52,54,52,55,52,56,52,57,53,48,53,49,53,50,53,51,53,52,53,53,53,54,53,55,53,56,53,57,54,48,54,49,54,50,54,51,54,52,54,53,54,54,54,55,54,56,54,57,55,48,55,49,55,50,55,51,55,52,55,53,55,54,55,55,55,56,55,57,56,48,56,49,56,50,56,51,56,52,56,53,56,54,56,55,56,56,56,57,57,48,57,49,57,50,57,51,57,52,57,53,57,54,57,55,57,56,57,57]
theorem smalls_hi:∀ k,k < 100 → smalls[k * 2]? = some (UInt8.ofNat (48 + k / 10)) := by decide +kernel
theorem smalls_lo:∀ k,k < 100 → smalls[k * 2 + 1]? = some (UInt8.ofNat (48 + k % 10)) := by decide +kernel
theorem si_hi {k:Nat} (h:k < 100):(if (0:Int) ≤ ((k * 2:Nat):Int) then smalls[((k * 2:Nat):Int).toNat]? else none) = some (UInt8.ofNat (48 + k / 10)) := by
 rw [if_pos (by omega),Int.toNat_natCast]
 exact smalls_hi k h
theorem si_lo {k:Nat} (h:k < 100):(if (0:Int) ≤ ((k * 2 + 1:Nat):Int) then smalls[((k * 2 + 1:Nat):Int).toNat]? else none) = some (UInt8.ofNat (48 + k % 10)) := by
 rw [if_pos (by omega),Int.toNat_natCast]
 exact smalls_lo k h
theorem u8_nat {n:Nat} (h:n < 256):(((UInt8.ofNat n).toNat:Nat):Int) = (n:Int) := by
 rw [UInt8.toNat_ofNat',Nat.mod_eq_of_lt h]
theorem len64W (w0:World) (H:List Blk) {n:Nat} (hn:n < 18446744073709551616):CallsA Tryz.prog w0 124 [.c (.val (.int .u64 n))] H fun r H' => r = i64 (len n) ∧ H' = H := by
 refine CallsA_frame rfl rfl ?_ H
 refine callsA_of_ev c124_ ?_
 conv => whnf
 refine Or.inr ⟨{p:Nat × Nat // p.1 < 4294967296 ∧ len n = p.2 + len p.1 ∧ p.2 ≤ 32},fun p => ⟨[(0,.o (.c (.val (.int .u64 (p.1.1:Nat))))),(2,.o (.c (.val (.int .i64 (p.1.2:Nat)))))],[]⟩,?_,?_⟩
 · conv => whnf
   refine ⟨fun h1 => ?_,fun h1 => ?_⟩
   · have h1:4294967296 ≤ n := ge_t h1
     conv => whnf
     simp (disch := omega) only [nshr64]
     refine ⟨⟨(n / 2 ^ 32,32),by simp only; omega,?_,by simp⟩,embNil ⟨rfl,rfl,trivial⟩⟩
     rw [len_div (j := 32) h1]
     simp only
     omega
   · have h1:n < 4294967296 := ge_f h1
     conv => whnf
     exact ⟨⟨(n,0),h1,by simp,by simp⟩,embNil ⟨rfl,rfl,trivial⟩⟩
 rintro ⟨⟨x,b⟩,hx,hl,hb⟩
 simp only at hx hl hb
 conv => whnf
 refine Or.inr ⟨{p:Nat × Nat // p.1 < 65536 ∧ len n = p.2 + len p.1 ∧ p.2 ≤ 48},fun p => ⟨[(0,.o (.c (.val (.int .u64 (p.1.1:Nat))))),(2,.o (.c (.val (.int .i64 (p.1.2:Nat)))))],[]⟩,?_,?_⟩
 · conv => whnf
   refine ⟨fun h1 => ?_,fun h1 => ?_⟩
   · have h1:65536 ≤ x := ge_t h1
     conv => whnf
     refine ⟨⟨(x / 2 ^ 16,b + 16),by simp only; omega,?_,by simp only; omega⟩,embNil ⟨?_,?_,trivial⟩⟩
     · rw [hl,len_div (j := 16) h1]
       simp only
       omega
     · refine eq_u64 ?_
       rw [nshr64 _ _ (by omega)]
     · refine eq_i64 ?_
       show IntKind.i64.wrap ((b:Int) + ((16:Nat):Int)) = _
       rw [nadd,nwrapi (by omega)]
   · have h1:x < 65536 := ge_f h1
     conv => whnf
     exact ⟨⟨(x,b),h1,hl,by simp only; omega⟩,embNil ⟨rfl,rfl,trivial⟩⟩
 clear hb hl hx x b
 rintro ⟨⟨x,b⟩,hx,hl,hb⟩
 simp only at hx hl hb
 conv => whnf
 refine Or.inr ⟨{p:Nat × Nat // p.1 < 256 ∧ len n = p.2 + len p.1 ∧ p.2 ≤ 56},fun p => ⟨[(0,.o (.c (.val (.int .u64 (p.1.1:Nat))))),(2,.o (.c (.val (.int .i64 (p.1.2:Nat)))))],[]⟩,?_,?_⟩
 · conv => whnf
   refine ⟨fun h1 => ?_,fun h1 => ?_⟩
   · have h1:256 ≤ x := ge_t h1
     conv => whnf
     refine ⟨⟨(x / 2 ^ 8,b + 8),by simp only; omega,?_,by simp only; omega⟩,embNil ⟨?_,?_,trivial⟩⟩
     · rw [hl,len_div (j := 8) h1]
       simp only
       omega
     · refine eq_u64 ?_
       rw [nshr64 _ _ (by omega)]
     · refine eq_i64 ?_
       show IntKind.i64.wrap ((b:Int) + ((8:Nat):Int)) = _
       rw [nadd,nwrapi (by omega)]
   · have h1:x < 256 := ge_f h1
     conv => whnf
     exact ⟨⟨(x,b),h1,hl,by simp only; omega⟩,embNil ⟨rfl,rfl,trivial⟩⟩
 clear hb hl hx x b
 rintro ⟨⟨x,b⟩,hx,hl,hb⟩
 simp only at hx hl hb
 have hl8 := len_le (n := x) (k := 8) hx
 conv => whnf
 refine ⟨UInt8.ofNat (len x),?_,?_⟩
 · show (if 0 ≤ IntKind.u8.wrap (x:Int) then lens[(IntKind.u8.wrap (x:Int)).toNat]? else none) = _
   rw [nwrap8 hx,if_pos (by omega),Int.toNat_natCast]
   exact lens_get x hx
 · conv => whnf
   refine Or.inl ⟨i64_of ?_,rfl⟩
   have e1:(UInt8.ofNat (len x)).toNat = len x := by
     rw [UInt8.toNat_ofNat']
     omega
   show IntKind.i64.wrap ((b:Int) + IntKind.i64.wrap (((UInt8.ofNat (len x)).toNat:Nat):Int)) = _
   rw [e1,nwrapi (by omega),nadd,nwrapi (by omega),hl]
theorem log10W (w0:World) (H:List Blk) {n:Nat} (hn:n ≤ 64):CallsA Tryz.prog w0 123 [.c (.val (.int .i64 n))] H fun r H' => r = i64 ((n * 78913 / 2 ^ 18:Nat):Int) ∧ H' = H := by
 refine CallsA_frame rfl rfl ?_ H
 refine callsA_of_ev c123_ ?_
 conv => whnf
 refine Or.inl ⟨i64_of ?_,rfl⟩
 show ((IntKind.i64.wrap ((n:Int) * ((78913:Nat):Int))).fdiv ((2:Int) ^ min 18 IntKind.i64.bits)) = _
 rw [nmul,nwrapi (by omega),nshri _ _ (by omega)]
theorem bool2W (w0:World) (H:List Blk) (b:Bool):CallsA Tryz.prog w0 125 [.c (.val (.bool b))] H fun r H' => r = i64 ((if b = true then 1 else 0:Nat):Int) ∧ H' = H := by
 refine CallsA_frame rfl rfl ?_ H
 refine callsA_of_ev c125_ ?_
 conv => whnf
 refine Or.inl ?_
 conv => whnf
 refine ⟨fun g => ?_,fun g => ?_⟩
 · subst g
   conv => whnf
   exact Or.inl ⟨rfl,rfl⟩
 · subst g
   conv => whnf
   exact Or.inl ⟨rfl,rfl⟩
def ndig (u:Nat):Nat := len u * 78913 / 2 ^ 18 + if 10 ^ (len u * 78913 / 2 ^ 18) ≤ u then 1 else 0
theorem log_fact:∀ l,l ≤ 64 → 2 ^ l ≤ 10 ^ (l * 78913 / 2 ^ 18 + 1) ∧ l * 78913 / 2 ^ 18 < 20 := by decide +kernel
theorem ndig_le {u:Nat} (h:u < 18446744073709551616):ndig u ≤ 20 := by
 have := (log_fact (len u) (len_le (k := 64) h)).2
 unfold ndig
 split <;> omega
theorem lt_ndig {u:Nat} (h:u < 18446744073709551616):u < 10 ^ ndig u := by
 have h1 := (log_fact (len u) (len_le (k := 64) h)).1
 unfold ndig
 split
 · refine Nat.lt_of_lt_of_le ?_ h1
   by_cases h0:u = 0
   · rw [h0]
     exact Nat.two_pow_pos _
   · obtain ⟨k,e1,_,e3⟩ := len_spec h0
     rw [e1]
     exact e3
 · rw [Nat.add_zero]
   omega
theorem ndig_pos {u:Nat} (h:1 ≤ u) (h2:u < 18446744073709551616):1 ≤ ndig u := by
 have := lt_ndig h2
 rcases Nat.eq_zero_or_pos (ndig u) with c | c
 · rw [c] at this
   omega
 · exact c
def pows (w0:World):Prop := ∀ i,i < 20 → w0.cell? ((Addr.mk 6 0 none).add (i * 1)) = some (.int .u64 ((10 ^ i:Nat):Int))
theorem numDigitsW (w0:World) (H:List Blk) (hp:pows w0) {u:Nat} (hu:u < 18446744073709551616):CallsA Tryz.prog w0 99 [.c (.val (.int .u64 u))] H fun r H' => r = i64 (ndig u) ∧ H' = H := by
 refine CallsA_frame rfl rfl ?_ H
 have hl := len_le (n := u) (k := 64) hu
 have hf := (log_fact (len u) hl).2
 refine callsA_of_ev c99_ ?_
 conv => whnf
 refine (len64W w0 [] hu).mono ?_
 rintro _ _ ⟨rfl,rfl⟩
 conv => whnf
 refine (log10W w0 [] hl).mono ?_
 rintro _ _ ⟨rfl,rfl⟩
 obtain ⟨t,ht⟩:∃ t,t = len u * 78913 / 2 ^ 18 := ⟨_,rfl⟩
 rw [← ht] at hf ⊢
 conv => whnf
 refine ⟨by omega,?_⟩
 conv => whnf
 refine ⟨_,hp t hf,rfl,?_⟩
 conv => whnf
 refine (bool2W w0 [] _).mono ?_
 rintro _ _ ⟨rfl,rfl⟩
 conv => whnf
 refine Or.inl ⟨i64_of ?_,rfl⟩
 show IntKind.i64.wrap ((t:Int) + (((if decide (((u:Nat):Int) ≥ ((10 ^ t:Nat):Int)) = true then 1 else 0):Nat):Int)) = _
 have e:(if decide (((u:Nat):Int) ≥ ((10 ^ t:Nat):Int)) = true then 1 else 0) = (if 10 ^ t ≤ u then 1 else 0:Nat) := by
   by_cases g:10 ^ t ≤ u
   · rw [if_pos g,if_pos (decide_eq_true (by exact_mod_cast g))]
   · rw [if_neg g,if_neg (by rw [decide_eq_false (by intro g2; exact g (by exact_mod_cast g2))]; decide)]
 rw [e]
 unfold ndig
 rw [← ht,nadd,nwrapi (by split <;> omega)]
theorem smallW (w0:World) (H:List Blk) {n:Nat} (hn:n < 100):CallsA Tryz.prog w0 98 [.c (.val (.int .i64 n))] H fun r H' => r = .o (.c (.val (.string (strOf (if n < 10 then digs 1 n else digs 2 n))))) ∧ H' = H := by
 refine CallsA_frame rfl rfl ?_ H
 have hf:∀ n,n < 10 → (ByteArray.mk #[48,49,50,51,52,53,54,55,56,57,97,98,99,100,101,102,103,104,105,106,107,108,109,110,111,112,113,114,115,116,117,118,119,120,121,122]).extract n (n + 1) = strOf (digs 1 n) := by decide +kernel
 have hf2:∀ n,n < 100 → 10 ≤ n → smalls.extract (n * 2) (n * 2 + 2) = strOf (digs 2 n) := by decide +kernel
 refine callsA_of_ev c98_ ?_
 conv => whnf
 refine Or.inl ?_
 conv => whnf
 refine ⟨fun g => ?_,fun g => ?_⟩
 · have g:n < 10 := lt_t g
   conv => whnf
   rw [nadd,nwrapi (n := n + 1) (by omega)]
   refine ⟨⟨by omega,by omega,?_⟩,?_⟩
   · show ((n + 1:Nat):Int) ≤ ((36:Nat):Int)
     omega
   conv => whnf
   refine Or.inl ⟨?_,rfl⟩
   rw [if_pos g,← hf n g]
   rfl
 · have g:10 ≤ n := lt_f g
   conv => whnf
   rw [nmul,nwrapi (n := n * 2) (by omega),nadd,nwrapi (n := n * 2 + 2) (by omega)]
   refine ⟨⟨by omega,by omega,?_⟩,?_⟩
   · show ((n * 2 + 2:Nat):Int) ≤ ((200:Nat):Int)
     omega
   conv => whnf
   refine Or.inl ⟨?_,rfl⟩
   rw [if_neg (by omega),← hf2 n hn g]
   rfl
end Go.Proofs.YtokkphocaloelaaGreatDoor

end
