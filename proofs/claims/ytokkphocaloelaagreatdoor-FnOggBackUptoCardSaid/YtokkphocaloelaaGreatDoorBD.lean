/- Joined: OgF,OgG,OgH,OgI,OgJ,OgK,IrQ,OgL,OgM,OgN,OgO,OgP,OgQ,OgR,OgS. -/
import Derived.Test.YtokkphocaloelaaGreatDoorBC
section
namespace Go.Proofs.YtokkphocaloelaaGreatDoor
open Go Go.Vc
set_option maxRecDepth 100000
set_option maxHeartbeats 8000000

def encPg:Enc (Pg × Nat) := ⟨fun bs x => [.val (.int .u32 x.1.ser),.val (.int .u32 x.1.seq),.val (.int .u64 x.1.gran),.val (.int .i64 x.1.flags),(match x.1.parts,bs with | _ :: _,[b] => .mem b x.2 x.1.parts.length | _,_ => .val (.slice none 0 0)),.val (.bool x.1.more)],fun σ bs bs' x hl hk => by
 obtain ⟨⟨a,q,c,d,parts,m⟩,j⟩ := x
 cases parts with
 | nil => rfl
 | cons y r =>
   match bs,bs',hl with
   | [],[],_ => rfl
   | [b],[b'],_ =>
     have := hk 0 (by simp)
     simp only [List.getD_cons_zero] at this
     simp only [List.map_cons,CV.ren,this,List.map_nil]
   | b :: c :: r,b' :: c' :: r',_ => rfl⟩
def famOf (ps:List Pg):List (List ByteArray) := (ps.filter fun p => !p.parts.isEmpty).map Pg.parts
def nne (ps:List Pg):Nat := (famOf ps).length
def rowsP:Nat → List Pg → List (Pg × Nat)
 | _,[] => []
 | j,p :: r => (p,j) :: rowsP (if p.parts.isEmpty then j else j + 1) r
theorem rowsP_snoc (p:Pg):∀ (ps:List Pg) (j:Nat),rowsP j (ps ++ [p]) = rowsP j ps ++ [(p,j + nne ps)]
 | [],j => rfl
 | q :: r,j => by
   show (q,j) :: rowsP _ (r ++ [p]) = (q,j) :: rowsP _ r ++ _
   rw [rowsP_snoc p r]
   show _ = (q,j) :: (rowsP _ r ++ _)
   congr 3
   unfold nne famOf
   cases h:q.parts.isEmpty <;> simp [h] <;> omega
theorem rowsP_len:∀ (ps:List Pg) (j:Nat),(rowsP j ps).length = ps.length
 | [],_ => rfl
 | _ :: r,_ => by show (rowsP _ r).length + 1 = r.length + 1; rw [rowsP_len r]
def famB (ps:List Pg):Blk := .fam 9 encStr 1 (famOf ps)
def pgsB (f:Nat) (ps:List Pg):Blk := .vec true 57 encPg [f] 6 (rowsP 0 ps)
def oggP:Nat → ByteArray → List Pg × Bool
 | 0,_ => ([],false)
 | f + 1,b => if b.size = 0 then ([],true) else match pageP b with
   | none => ([],false)
   | some (p,k) => (p :: (oggP f (b.extract k b.size)).1,(oggP f (b.extract k b.size)).2)
def oggR (b:ByteArray):List Pg × Bool := oggP (b.size + 1) b
theorem pageP_facts {b:ByteArray} {p:Pg} {k:Nat} (h:pageP b = some (p,k)):27 ≤ k ∧ k ≤ b.size := by
 unfold pageP at h
 simp only at h
 split at h
 · cases h
 · rename_i hn
   have hm := prS_mono b (bt (bytesOf b) 26) (i := 0) (j := bt (bytesOf b) 26) (Nat.zero_le _)
   have hm:27 + _ ≤ _ := hm
   have hs:¬ b.size < (prS b (bt (bytesOf b) 26) (bt (bytesOf b) 26)).1 := fun h => hn (.inr (.inr (.inr (.inl h))))
   cases h
   exact ⟨by omega,by omega⟩
theorem oggP_fuel:∀ (f g:Nat) (b:ByteArray),b.size < f → b.size < g → oggP f b = oggP g b
 | 0,_,_,h,_ => by omega
 | _ + 1,0,_,_,h => by omega
 | f + 1,g + 1,b,hf,hg => by
   unfold oggP
   by_cases h0:b.size = 0
   · rw [if_pos h0,if_pos h0]
   · rw [if_neg h0,if_neg h0]
     cases hp:pageP b with
     | none => rfl
     | some x =>
       obtain ⟨p,k⟩ := x
       have hk := pageP_facts hp
       have hz:(b.extract k b.size).size = b.size - k := by rw [ByteArray.size_extract]; omega
       simp only
       rw [oggP_fuel f g (b.extract k b.size) (by omega) (by omega)]
theorem oggR_step {b:ByteArray} (h0:b.size ≠ 0):oggR b = match pageP b with
   | none => ([],false)
   | some (p,k) => (p :: (oggR (b.extract k b.size)).1,(oggR (b.extract k b.size)).2) := by
 unfold oggR
 rw [oggP,if_neg h0]
 cases hp:pageP b with
 | none => rfl
 | some x =>
   obtain ⟨p,k⟩ := x
   have hk := pageP_facts hp
   have hz:(b.extract k b.size).size = b.size - k := by rw [ByteArray.size_extract]; omega
   simp only
   rw [oggP_fuel b.size ((b.extract k b.size).size + 1) (b.extract k b.size) (by omega) (by omega)]
theorem oggR_nil {b:ByteArray} (h0:b.size = 0):oggR b = ([],true) := by
 unfold oggR
 rw [oggP,if_pos h0]
end Go.Proofs.YtokkphocaloelaaGreatDoor

end
section
namespace Go.Proofs.YtokkphocaloelaaGreatDoor
open Go Go.Vc
set_option maxRecDepth 100000
set_option maxHeartbeats 8000000

def pgsV (i:Nat) (ps:List Pg):CV := match ps with
 | [] => .val (.slice none 0 0)
 | _ :: _ => .vec i ps.length
def pgsH (ps:List Pg):List Blk := match ps with
 | [] => []
 | _ :: _ => [pgsB 1 ps,famB ps]
def ogSt (ps:List Pg) (b:ByteArray):S := ⟨[(0,.o (.c (.val (.string b)))),(2,.o (.c (pgsV 0 ps)))],pgsH ps⟩
def pgM (p:Pg) (f j:Nat):List CV := [.val (.int .u32 p.ser),.val (.int .u32 p.seq),.val (.int .u64 p.gran),.val (.int .i64 p.flags),.mem f j p.parts.length,.val (.bool p.more)]
theorem famB_nil {ps:List Pg} {p:Pg} (h:p.parts = []):famB (ps ++ [p]) = famB ps := by
 unfold famB famOf
 simp [h]
theorem famB_cons {ps:List Pg} {p:Pg} {x:ByteArray} {xr:List ByteArray} (h:p.parts = x :: xr):famB (ps ++ [p]) = .fam 9 encStr 1 (famOf ps ++ [x :: xr]) := by
 unfold famB famOf
 simp [h]
theorem flatPg_tau (f i nf J:Nat) (l:List (Pg × Nat)):(flat encPg [f] l).map (tau f i nf J) = flat encPg [nf] l := by
 unfold flat
 induction l with
 | nil => rfl
 | cons x r ih =>
   rw [List.flatMap_cons,List.flatMap_cons,List.map_append,ih]
   congr 1
   obtain ⟨⟨a,q,c,d,parts,m⟩,j⟩ := x
   cases parts with
   | nil => rfl
   | cons y ys =>
     show [_,_,_,_,(bif Nat.beq f f then CV.mem nf j (ys.length + 1) else CV.mem f j (ys.length + 1)),_] = _
     rw [Nat.beq_refl]
     rfl
theorem oggReadW (w0:World) {b0:ByteArray} (hs:b0.size ≤ 1099511627776):CallsA Tryz.prog w0 36 [.c (.val (.string b0))] [] fun r H => r = .t [.c (pgsV 0 (oggR b0).1),.c (.val (.bool (oggR b0).2))] ∧ H = pgsH (oggR b0).1 := by
 obtain ⟨rs,hrs⟩:∃ rs,rs = oggR b0 := ⟨_,rfl⟩
 rw [← hrs]
 refine callsA_of_ev c36_ ?_
 conv => whnf
 refine Or.inr ⟨PLift (rs.2 = true),fun _ => ⟨[(2,.o (.c (pgsV 0 rs.1)))],pgsH rs.1⟩,?_,fun ⟨ht⟩ => ?_⟩
 · conv => whnf
   refine ⟨{x:List Pg × ByteArray // rs = (x.1 ++ (oggR x.2).1,(oggR x.2).2) ∧ x.2.size + 27 * x.1.length ≤ b0.size},fun ⟨⟨ps,b⟩,_⟩ => ogSt ps b,fun x => x.1.2.size,⟨⟨([],b0),hrs,Nat.le_refl _⟩,[],⟨rfl,trivial,rfl⟩,rfl,rfl,trivial⟩,fun ⟨⟨ps,b⟩,h⟩ => ?_⟩
   have h1 := h.1
   have h2 := h.2
   simp only at h1 h2
   conv => whnf
   refine ⟨fun g1 => ?_,fun g1 => ?_⟩
   · have g1:b.size ≠ 0 := by
       intro h0
       exact strq_f g1 (ByteArray.ext (Array.eq_empty_of_size_eq_zero h0))
     have hst := oggR_step g1
     have hpr := pageReadW w0 (b := b) (by omega)
     cases hp:pageP b with
     | none =>
       rw [hp] at hst hpr
       rw [hst] at h1
       simp only [List.append_nil] at h1
       subst h1
       cases ps with
       | nil =>
         conv => whnf
         refine cL0 hpr ?_
         rintro _ _ ⟨rfl,rfl⟩
         conv => whnf
         refine Or.inl ?_
         conv => whnf
         refine ⟨fun _ => ?_,fun g => zT g⟩
         conv => whnf
         exact Or.inr ⟨[],_,[],⟨rfl,trivial,rfl⟩,rfl,rfl,rfl⟩
       | cons p0 pr =>
         conv => whnf
         refine cL0 hpr ?_
         rintro _ _ ⟨rfl,rfl⟩
         conv => whnf
         refine Or.inl ?_
         conv => whnf
         refine ⟨fun _ => ?_,fun g => zT g⟩
         conv => whnf
         exact Or.inr ⟨[0,1],.t [.c (pgsV 0 (p0 :: pr)),.c (.val (.bool false))],pgsH (p0 :: pr),⟨rfl,⟨rfl,rfl,rfl,rfl,trivial⟩,rfl⟩,rfl,rfl,rfl⟩
     | some x =>
       obtain ⟨p,k⟩ := x
       have hk := pageP_facts hp
       rw [hp] at hst hpr
       rw [hst] at h1
       have hz:(b.extract k b.size).size = b.size - k := by rw [ByteArray.size_extract]; omega
       have h1':rs = ((ps ++ [p]) ++ (oggR (b.extract k b.size)).1,(oggR (b.extract k b.size)).2) := by
         rw [h1,List.append_assoc]
         rfl
       obtain ⟨a,q,c,d,parts,m⟩ := p
       cases ps with
       | nil =>
         cases parts with
         | nil =>
           conv => whnf
           refine cL0 hpr ?_
           rintro _ _ ⟨rfl,rfl⟩
           conv => whnf
           refine Or.inl ?_
           conv => whnf
           refine ⟨fun g => zF g,fun _ => ?_⟩
           conv => whnf
           refine ⟨_,Ghost.fam0 w0 _ 9 encStr 1 (by decide) (fun _ => rfl),?_⟩
           conv => whnf
           refine ⟨by decide,Pg × Nat,encPg,[2],[((Pg.mk a q c d [] m),0)],fun _ => rfl,⟨rfl,rfl,rfl⟩,by simp only [List.length_cons,List.length_nil]; omega,by simp only [List.length_cons,List.length_nil]; omega,?_⟩
           conv => whnf
           refine ⟨⟨by omega,by omega⟩,?_⟩
           conv => whnf
           refine ⟨⟨([(Pg.mk a q c d [] m)],b.extract k b.size),h1',by show (b.extract k b.size).size + 27 * 1 ≤ _; omega⟩,⟨[3,2],⟨rfl,⟨rfl,rfl,rfl,rfl,trivial⟩,rfl⟩,rfl,rfl,trivial⟩,?_⟩
           show (b.extract k b.size).size < b.size
           omega
         | cons x xr =>
           conv => whnf
           refine cL0 hpr ?_
           rintro _ _ ⟨rfl,rfl⟩
           conv => whnf
           refine Or.inl ?_
           conv => whnf
           refine ⟨fun g => zF g,fun _ => ?_⟩
           conv => whnf
           refine ⟨[.dead,.cells 57 (pgM (Pg.mk a q c d (x :: xr) m) 4 0),.cells 57 (pgM (Pg.mk a q c d (x :: xr) m) 4 0),.dead] ++ [.fam 9 encStr 1 ([] ++ [x :: xr])],Ghost.trans (H1 := [strB (x :: xr),.cells 57 (pgC (Pg.mk a q c d (x :: xr) m) 0),.cells 57 (pgC (Pg.mk a q c d (x :: xr) m) 0),.fam 9 encStr 1 []]) (Ghost.fam0 w0 [strB (x :: xr),.cells 57 (pgC (Pg.mk a q c d (x :: xr) m) 0),.cells 57 (pgC (Pg.mk a q c d (x :: xr) m) 0)] 9 encStr 1 (by decide) (fun _ => rfl)) (Ghost.joinL 3 0 (H := [strB (x :: xr),.cells 57 (pgC (Pg.mk a q c d (x :: xr) m) 0),.cells 57 (pgC (Pg.mk a q c d (x :: xr) m) 0),.fam 9 encStr 1 []]) (H1 := [.dead,.cells 57 (pgM (Pg.mk a q c d (x :: xr) m) 4 0),.cells 57 (pgM (Pg.mk a q c d (x :: xr) m) 4 0),.dead]) (xss := []) (zs := x :: xr) (wr := true) rfl rfl ⟨.dead,.cells (by decide) (by decide) rfl,.cells (by decide) (by decide) rfl,.dead,trivial⟩),?_⟩
           conv => whnf
           refine ⟨by decide,Pg × Nat,encPg,[4],[((Pg.mk a q c d (x :: xr) m),0)],fun _ => rfl,⟨rfl,rfl,rfl⟩,by simp only [List.length_cons,List.length_nil]; omega,by simp only [List.length_cons,List.length_nil]; omega,?_⟩
           conv => whnf
           refine ⟨⟨by omega,by omega⟩,?_⟩
           conv => whnf
           refine ⟨⟨([(Pg.mk a q c d (x :: xr) m)],b.extract k b.size),h1',by show (b.extract k b.size).size + 27 * 1 ≤ _; omega⟩,⟨[5,4],⟨rfl,⟨rfl,rfl,rfl,rfl,trivial⟩,rfl⟩,rfl,rfl,trivial⟩,?_⟩
           show (b.extract k b.size).size < b.size
           omega
       | cons p0 pr =>
         simp only [List.length_cons] at h2
         have hln:(p0 :: pr).length = pr.length + 1 := rfl
         cases parts with
         | nil =>
           conv => whnf
           refine cL0 hpr ?_
           rintro _ _ ⟨rfl,rfl⟩
           conv => whnf
           refine Or.inl ?_
           conv => whnf
           refine ⟨fun g => zF g,fun _ => ?_⟩
           conv => whnf
           refine ⟨_,Ghost.refl w0 _,?_⟩
           conv => whnf
           refine ⟨(rowsP_len (p0 :: pr) 0).symm,[((Pg.mk a q c d [] m),nne (p0 :: pr))],⟨rfl,rfl,rfl⟩,?_,?_,?_⟩
           · show (rowsP 0 (p0 :: pr) ++ [_]).length * 56 ≤ _
             rw [List.length_append,rowsP_len,List.length_singleton]
             omega
           · show (rowsP 0 (p0 :: pr) ++ [_]).length ≤ _
             rw [List.length_append,rowsP_len,List.length_singleton]
             omega
           conv => whnf
           refine ⟨⟨by omega,by omega⟩,?_⟩
           conv => whnf
           refine ⟨⟨((p0 :: pr) ++ [(Pg.mk a q c d [] m)],b.extract k b.size),h1',by show (b.extract k b.size).size + 27 * ((p0 :: pr) ++ [_]).length ≤ _; rw [List.length_append,List.length_singleton]; omega⟩,⟨[4,1],⟨rfl,(show embH [4,1] _ [pgsB 1 ((p0 :: pr) ++ [(Pg.mk a q c d [] m)]),famB ((p0 :: pr) ++ [(Pg.mk a q c d [] m)])] [4,1] from ⟨?_,rfl,?_,rfl,trivial⟩),rfl⟩,rfl,?_,trivial⟩,?_⟩
           · show some (Blk.vec true 57 encPg [1] 6 (rowsP 0 (p0 :: pr) ++ [((Pg.mk a q c d [] m),nne (p0 :: pr))])) = some (Blk.vec true 57 encPg [1] 6 (rowsP 0 ((p0 :: pr) ++ [(Pg.mk a q c d [] m)])))
             rw [rowsP_snoc,Nat.zero_add]
           · show some (famB (p0 :: pr)) = some (famB ((p0 :: pr) ++ [(Pg.mk a q c d [] m)]))
             rw [famB_nil rfl]
           · show some (AV.o (.c (CV.vec 4 (rowsP 0 (p0 :: pr) ++ [((Pg.mk a q c d [] m),nne (p0 :: pr))]).length))) = some (AV.o (.c (CV.vec 4 ((p0 :: pr) ++ [(Pg.mk a q c d [] m)]).length)))
             rw [List.length_append,rowsP_len,List.length_append]
             rfl
           show (b.extract k b.size).size < b.size
           omega
         | cons x xr =>
           conv => whnf
           refine cL0 hpr ?_
           rintro _ _ ⟨rfl,rfl⟩
           conv => whnf
           refine Or.inl ?_
           conv => whnf
           refine ⟨fun g => zF g,fun _ => ?_⟩
           conv => whnf
           refine ⟨[pgsB 5 (p0 :: pr),.dead,.dead,.cells 57 (pgM (Pg.mk a q c d (x :: xr) m) 5 (famOf (p0 :: pr)).length),.cells 57 (pgM (Pg.mk a q c d (x :: xr) m) 5 (famOf (p0 :: pr)).length)] ++ [.fam 9 encStr 1 (famOf (p0 :: pr) ++ [x :: xr])],Ghost.joinL 1 2 (H := [pgsB 1 (p0 :: pr),famB (p0 :: pr),strB (x :: xr),.cells 57 (pgC (Pg.mk a q c d (x :: xr) m) 2),.cells 57 (pgC (Pg.mk a q c d (x :: xr) m) 2)]) (H1 := [pgsB 5 (p0 :: pr),.dead,.dead,.cells 57 (pgM (Pg.mk a q c d (x :: xr) m) 5 (famOf (p0 :: pr)).length),.cells 57 (pgM (Pg.mk a q c d (x :: xr) m) 5 (famOf (p0 :: pr)).length)]) (xss := famOf (p0 :: pr)) (zs := x :: xr) (wr := true) rfl rfl ⟨.vec (by decide) (by decide) rfl (fun _ => rfl) (flatPg_tau ..).symm,.dead,.dead,.cells (by decide) (by decide) rfl,.cells (by decide) (by decide) rfl,trivial⟩,?_⟩
           conv => whnf
           refine ⟨(rowsP_len (p0 :: pr) 0).symm,[((Pg.mk a q c d (x :: xr) m),nne (p0 :: pr))],⟨rfl,rfl,rfl⟩,?_,?_,?_⟩
           · show (rowsP 0 (p0 :: pr) ++ [_]).length * 56 ≤ _
             rw [List.length_append,rowsP_len,List.length_singleton]
             omega
           · show (rowsP 0 (p0 :: pr) ++ [_]).length ≤ _
             rw [List.length_append,rowsP_len,List.length_singleton]
             omega
           conv => whnf
           refine ⟨⟨by omega,by omega⟩,?_⟩
           conv => whnf
           refine ⟨⟨((p0 :: pr) ++ [(Pg.mk a q c d (x :: xr) m)],b.extract k b.size),h1',by show (b.extract k b.size).size + 27 * ((p0 :: pr) ++ [_]).length ≤ _; rw [List.length_append,List.length_singleton]; omega⟩,⟨[6,5],⟨rfl,(show embH [6,5] _ [pgsB 1 ((p0 :: pr) ++ [(Pg.mk a q c d (x :: xr) m)]),famB ((p0 :: pr) ++ [(Pg.mk a q c d (x :: xr) m)])] [6,5] from ⟨?_,rfl,?_,rfl,trivial⟩),rfl⟩,rfl,?_,trivial⟩,?_⟩
           · show some (Blk.vec true 57 encPg [5] 6 (rowsP 0 (p0 :: pr) ++ [((Pg.mk a q c d (x :: xr) m),nne (p0 :: pr))])) = some (Blk.vec true 57 encPg [5] 6 (rowsP 0 ((p0 :: pr) ++ [(Pg.mk a q c d (x :: xr) m)])))
             rw [rowsP_snoc,Nat.zero_add]
           · show some (Blk.fam 9 encStr 1 (famOf (p0 :: pr) ++ [x :: xr])) = some (famB ((p0 :: pr) ++ [(Pg.mk a q c d (x :: xr) m)]))
             rw [famB_cons rfl]
           · show some (AV.o (.c (CV.vec 6 (rowsP 0 (p0 :: pr) ++ [((Pg.mk a q c d (x :: xr) m),nne (p0 :: pr))]).length))) = some (AV.o (.c (CV.vec 6 ((p0 :: pr) ++ [(Pg.mk a q c d (x :: xr) m)]).length)))
             rw [List.length_append,rowsP_len,List.length_append]
             rfl
           show (b.extract k b.size).size < b.size
           omega
   · have g1:b.size = 0 := by
       rw [strq_t g1]
       rfl
     rw [oggR_nil g1] at h1
     simp only [List.append_nil] at h1
     subst h1
     cases ps with
     | nil =>
       conv => whnf
       exact ⟨⟨rfl⟩,[],⟨rfl,trivial,rfl⟩,rfl,trivial⟩
     | cons p0 pr =>
       conv => whnf
       exact ⟨⟨rfl⟩,[0,1],⟨rfl,⟨rfl,rfl,rfl,rfl,trivial⟩,rfl⟩,rfl,trivial⟩
 · obtain ⟨ps,wh⟩ := rs
   cases ps with
   | nil =>
     conv => whnf
     obtain rfl:wh = true := ht
     exact Or.inl ⟨rfl,rfl⟩
   | cons p0 pr =>
     conv => whnf
     obtain rfl:wh = true := ht
     exact Or.inl ⟨rfl,rfl⟩
end Go.Proofs.YtokkphocaloelaaGreatDoor

end
section
namespace Go.Proofs.YtokkphocaloelaaGreatDoor
open Go Go.Vc
set_option maxRecDepth 100000
set_option maxHeartbeats 8000000

theorem told2W (w0:World) (t:Bool):CallsA Tryz.prog w0 48 [.c (.val (.bool t))] [] fun r H => r = .o (.c (.val (.int .i64 ((if t = true then 1 else 2:Nat):Int)))) ∧ H = [] := by
 refine callsA_of_ev c48_ ?_
 conv => whnf
 refine Or.inl ?_
 conv => whnf
 cases t with
 | true =>
   refine ⟨fun _ => ?_,fun g => Bool.noConfusion g⟩
   conv => whnf
   exact Or.inl ⟨rfl,rfl⟩
 | false =>
   refine ⟨fun g => Bool.noConfusion g,fun _ => ?_⟩
   conv => whnf
   exact Or.inl ⟨rfl,rfl⟩
structure Hd where
 ver:Int
 ch:Int
 map:Int
 skip:Int
 gain:Int
 rate:Nat
 str:Int
 cou:Int
 mapping:ByteArray
def Hd.bad (h:Hd):Prop := h.ver < 0 ∨ 255 < h.ver ∨ h.ch < 1 ∨ 255 < h.ch ∨ h.map < 0 ∨ 255 < h.map ∨ h.skip < 0 ∨ 65535 < h.skip ∨ h.gain < -32768 ∨ 65535 < h.gain
instance (h:Hd):Decidable h.bad := by unfold Hd.bad; infer_instance
def Hd.bad2 (h:Hd):Prop := h.str < 1 ∨ 255 < h.str ∨ h.cou < 0 ∨ h.str < h.cou ∨ 255 < h.str + h.cou ∨ (h.mapping.size:Int) ≠ h.ch ∨ (h.map ≠ 1 ∧ h.map ≠ 255)
instance (h:Hd):Decidable h.bad2 := by unfold Hd.bad2; infer_instance
def opusHead:List Int := [79,112,117,115,72,101,97,100]
def Hd.fix (h:Hd):List Int := opusHead ++ [h.ver,h.ch] ++ leL h.skip.toNat 2 ++ leL h.rate 4 ++ leL (h.gain % 65536).toNat 2 ++ [h.map]
def Hd.text (h:Hd):ByteArray × Nat :=
 if h.bad then (ByteArray.mk #[],2)
 else if h.map = 0 then (strOf h.fix,if h.str = 0 ∧ h.cou = 0 ∧ h.mapping.size = 0 ∧ h.ch ≤ 2 then 1 else 2)
 else if h.bad2 then (ByteArray.mk #[],2)
 else (strOf (h.fix ++ [h.str,h.cou]) ++ h.mapping,1)
def Hd.textM (h:Hd) (n:Nat):ByteArray × Nat := if 0 < n then (ByteArray.mk #[],2) else h.text
def Hd.cells (h:Hd) (m:Value):List CV := [.val (.int .i64 h.ver),.val (.int .i64 h.ch),.val (.int .i64 h.map),.val (.int .i64 h.skip),.val (.int .i64 h.gain),.val (.int .u32 h.rate),.val (.int .i64 h.str),.val (.int .i64 h.cou),.val (.string h.mapping),.val m]
theorem strb_t {a b:ByteArray} (h:(a.toList == b.toList) = true):a = b := by
 have h := eq_of_beq h
 rw [ByteArray.toList_eq,ByteArray.toList_eq] at h
 exact ByteArray.ext (Array.ext' h)
theorem strb_f {a b:ByteArray} (h:(a.toList == b.toList) = false):a ≠ b := by
 rintro rfl
 rw [beq_self_eq_true] at h
 cases h
theorem headTextW (w0:World) (h:Hd) (hr:h.rate < 4294967296) (_hi:∀ x ∈ [h.ver,h.ch,h.map,h.skip,h.gain,h.str,h.cou],-9223372036854775808 ≤ x ∧ x < 9223372036854775808) (_hm:h.mapping.size ≤ 2147483647)
   {ma:Option Addr} {mn mc:Nat}:CallsA Tryz.prog w0 51 [.a (h.cells (.slice ma mn mc))] [] fun r H => r = .t [.c (.val (.string (h.textM mn).1)),.c (.val (.int .i64 ((h.textM mn).2:Nat)))] ∧ H = [] := by
 obtain ⟨t,ht⟩:∃ t,t = h.textM mn := ⟨_,rfl⟩
 rw [← ht]
 have hbad:h.bad → t = (ByteArray.mk #[],2) := fun hb => by
   rw [ht]
   unfold Hd.textM
   split
   · rfl
   · exact if_pos hb
 refine callsA_of_ev c51_ ?_
 conv => whnf
 refine Or.inr ⟨PLift (¬ h.bad ∧ ¬ 0 < mn),fun _ => ⟨[(1,.o (.c (.ptr 0 0)))],[.cells 25 (h.cells (.slice ma mn mc))]⟩,?_,fun ⟨hnb,km⟩ => ?_⟩
 · conv => whnf
   refine ⟨fun g => ?_,fun g => ?_⟩
   · have k:h.ver < 0 := of_decide_eq_true g
     have hb := hbad (.inl k)
     subst hb
     conv => whnf
     exact Or.inr ⟨[],_,[],⟨rfl,trivial,rfl⟩,rfl,rfl,rfl⟩
   have k0:¬ h.ver < 0 := of_decide_eq_false g
   conv => whnf
   refine ⟨fun g => ?_,fun g => ?_⟩
   · have k:255 < h.ver := of_decide_eq_true g
     have hb := hbad (.inr (.inl k))
     subst hb
     conv => whnf
     exact Or.inr ⟨[],_,[],⟨rfl,trivial,rfl⟩,rfl,rfl,rfl⟩
   have k1:¬ 255 < h.ver := of_decide_eq_false g
   conv => whnf
   refine ⟨fun g => ?_,fun g => ?_⟩
   · have k:h.ch < 1 := of_decide_eq_true g
     have hb := hbad (.inr (.inr (.inl k)))
     subst hb
     conv => whnf
     exact Or.inr ⟨[],_,[],⟨rfl,trivial,rfl⟩,rfl,rfl,rfl⟩
   have k2:¬ h.ch < 1 := of_decide_eq_false g
   conv => whnf
   refine ⟨fun g => ?_,fun g => ?_⟩
   · have k:255 < h.ch := of_decide_eq_true g
     have hb := hbad (.inr (.inr (.inr (.inl k))))
     subst hb
     conv => whnf
     exact Or.inr ⟨[],_,[],⟨rfl,trivial,rfl⟩,rfl,rfl,rfl⟩
   have k3:¬ 255 < h.ch := of_decide_eq_false g
   conv => whnf
   refine ⟨fun g => ?_,fun g => ?_⟩
   · have k:h.map < 0 := of_decide_eq_true g
     have hb := hbad (.inr (.inr (.inr (.inr (.inl k)))))
     subst hb
     conv => whnf
     exact Or.inr ⟨[],_,[],⟨rfl,trivial,rfl⟩,rfl,rfl,rfl⟩
   have k4:¬ h.map < 0 := of_decide_eq_false g
   conv => whnf
   refine ⟨fun g => ?_,fun g => ?_⟩
   · have k:255 < h.map := of_decide_eq_true g
     have hb := hbad (.inr (.inr (.inr (.inr (.inr (.inl k))))))
     subst hb
     conv => whnf
     exact Or.inr ⟨[],_,[],⟨rfl,trivial,rfl⟩,rfl,rfl,rfl⟩
   have k5:¬ 255 < h.map := of_decide_eq_false g
   conv => whnf
   refine ⟨fun g => ?_,fun g => ?_⟩
   · have k:h.skip < 0 := of_decide_eq_true g
     have hb := hbad (.inr (.inr (.inr (.inr (.inr (.inr (.inl k)))))))
     subst hb
     conv => whnf
     exact Or.inr ⟨[],_,[],⟨rfl,trivial,rfl⟩,rfl,rfl,rfl⟩
   have k6:¬ h.skip < 0 := of_decide_eq_false g
   conv => whnf
   refine ⟨fun g => ?_,fun g => ?_⟩
   · have k:65535 < h.skip := of_decide_eq_true g
     have hb := hbad (.inr (.inr (.inr (.inr (.inr (.inr (.inr (.inl k))))))))
     subst hb
     conv => whnf
     exact Or.inr ⟨[],_,[],⟨rfl,trivial,rfl⟩,rfl,rfl,rfl⟩
   have k7:¬ 65535 < h.skip := of_decide_eq_false g
   conv => whnf
   refine ⟨fun g => ?_,fun g => ?_⟩
   · have k:h.gain < -32768 := of_decide_eq_true g
     have hb := hbad (.inr (.inr (.inr (.inr (.inr (.inr (.inr (.inr (.inl k)))))))))
     subst hb
     conv => whnf
     exact Or.inr ⟨[],_,[],⟨rfl,trivial,rfl⟩,rfl,rfl,rfl⟩
   have k8:¬ h.gain < -32768 := of_decide_eq_false g
   conv => whnf
   refine ⟨fun g => ?_,fun g => ?_⟩
   · have k:65535 < h.gain := of_decide_eq_true g
     have hb := hbad (.inr (.inr (.inr (.inr (.inr (.inr (.inr (.inr (.inr (k))))))))))
     subst hb
     conv => whnf
     exact Or.inr ⟨[],_,[],⟨rfl,trivial,rfl⟩,rfl,rfl,rfl⟩
   have k9:¬ 65535 < h.gain := of_decide_eq_false g
   conv => whnf
   refine ⟨fun g => ?_,fun g => ?_⟩
   · have k:0 < mn := by
       have := of_decide_eq_true g
       omega
     have hb:t = (ByteArray.mk #[],2) := by rw [ht]; exact if_pos k
     subst hb
     conv => whnf
     exact Or.inr ⟨[],_,[],⟨rfl,trivial,rfl⟩,rfl,rfl,rfl⟩
   have km:¬ 0 < mn := by
     have := of_decide_eq_false g
     omega
   have hnb:¬ h.bad := by
     unfold Hd.bad
     omega
   conv => whnf
   exact ⟨⟨hnb,km⟩,[0],⟨rfl,⟨rfl,rfl,trivial⟩,rfl⟩,rfl,trivial⟩
 have hT:t = h.text := by
   rw [ht]
   exact if_neg km
 have hnb' := hnb
 unfold Hd.bad at hnb'
 have w1:IntKind.u64.wrap h.skip = ((h.skip.toNat:Nat):Int) := by rw [IntKind.wrap_u64]; omega
 have w2:IntKind.u64.wrap ((h.rate:Nat):Int) = ((h.rate:Nat):Int) := nwrap64 (by omega)
 have w3:IntKind.u64.wrap (IntKind.u16.wrap h.gain) = (((h.gain % 65536).toNat:Nat):Int) := by rw [IntKind.wrap_u64,IntKind.wrap_u16]; omega
 have w4:IntKind.u8.wrap h.ver = h.ver := by rw [IntKind.wrap_u8]; omega
 have w5:IntKind.u8.wrap h.ch = h.ch := by rw [IntKind.wrap_u8]; omega
 have w6:IntKind.u8.wrap h.map = h.map := by rw [IntKind.wrap_u8]; omega
 refine Or.inr ⟨Unit,fun _ => ⟨[(1,.o (.c (.ptr 0 0))),(4,.o (.c (.val (.string (strOf h.fix)))))],[.cells 25 (h.cells (.slice ma mn mc))]⟩,?_,fun _ => ?_⟩
 · conv => whnf
   rw [w1,w2,w3,w4,w5,w6]
   have hfin:some (AV.o (.c (.val (.string (ByteArray.mk #[79,112,117,115,72,101,97,100] ++ strOf [h.ver,h.ch] ++ strOf (leL h.skip.toNat 2) ++ strOf (leL h.rate 4) ++ strOf (leL (h.gain % 65536).toNat 2) ++ strOf [h.map]))))) = some (AV.o (.c (.val (.string (strOf h.fix))))) := by
     unfold Hd.fix
     rw [strOf_add,strOf_add,strOf_add,strOf_add,strOf_add]
     rfl
   have hoS:(ByteArray.mk #[79,112,117,115,72,101,97,100]).size = 8 := rfl
   have hadd:∀ {a b:ByteArray},a.size ≤ 100 → b.size ≤ 100 → a.size + b.size ≤ 9223372036854775807 := fun h1 h2 => by omega
   refine ⟨?_,?_⟩
   iterate 60 (all_goals (conv => whnf) ; all_goals (first
     | exact ⟨(),[0],⟨rfl,⟨rfl,rfl,trivial⟩,rfl⟩,rfl,hfin,trivial⟩
     | (refine cL0 (leastW _ h.rate (size := 4) (by decide)) ?_; intro r0 H0 hh; have h1 := hh.1; have h2 := hh.2; clear hh; subst h1; subst h2)
     | (refine cL0 (leastW _ h.skip.toNat (size := 2) (by decide)) ?_; intro r0 H0 hh; have h1 := hh.1; have h2 := hh.2; clear hh; subst h1; subst h2)
     | (refine cL0 (leastW _ (h.gain % 65536).toNat (size := 2) (by decide)) ?_; intro r0 H0 hh; have h1 := hh.1; have h2 := hh.2; clear hh; subst h1; subst h2)
     | refine ⟨trivial,[h.ver,h.ch],⟨rfl,rfl,rfl⟩,?_⟩
     | refine ⟨trivial,[h.map],⟨rfl,rfl,rfl⟩,?_⟩
     | (refine ⟨?_,?_⟩; focus (simp only [ByteArray.size_append,strOf_siz,leL_len,List.length_cons,List.length_nil,hoS]; decide))
     | (refine ⟨?_,?_⟩; focus ((conv => whnf); (repeat' (first | exact trivial | exact ⟨rfl,rfl⟩ | exact ⟨trivial,[h.ver,h.ch],⟨rfl,rfl,rfl⟩,rfl,rfl⟩ | exact ⟨trivial,[h.map],⟨rfl,rfl,rfl⟩,rfl,rfl⟩ | refine ⟨?_,?_⟩)); done))
     | refine ⟨?_,?_⟩))
 rw [hT]
 have hx:h.text = if h.map = 0 then (strOf h.fix,if h.str = 0 ∧ h.cou = 0 ∧ h.mapping.size = 0 ∧ h.ch ≤ 2 then 1 else 2) else if h.bad2 then (ByteArray.mk #[],2) else (strOf (h.fix ++ [h.str,h.cou]) ++ h.mapping,1) := if_neg hnb
 rw [hx]
 clear ht hbad hT hx
 conv => whnf
 refine Or.inl ?_
 conv => whnf
 refine ⟨fun g => ?_,fun g => ?_⟩
 · have k:h.map = 0 := eq_of_beq g
   rw [if_pos k]
   conv => whnf
   have hno:∀ (n:Nat),CallsA Tryz.prog w0 48 [.c (.val (.bool false))] [] fun r H => r = .o (.c (.val (.int .i64 ((2:Nat):Int)))) ∧ H = [] := fun _ => told2W w0 false
   refine ⟨fun g1 => ?_,fun g1 => ?_⟩
   · have k1:h.str = 0 := eq_of_beq g1
     conv => whnf
     refine ⟨fun g2 => ?_,fun g2 => ?_⟩
     · have k2:h.cou = 0 := eq_of_beq g2
       conv => whnf
       refine ⟨fun g3 => ?_,fun g3 => ?_⟩
       · have k3:h.mapping.size = 0 := by
           rw [strb_t g3]
           rfl
         conv => whnf
         by_cases k4:h.ch ≤ 2
         · rw [if_pos (show h.str = 0 ∧ h.cou = 0 ∧ h.mapping.size = 0 ∧ h.ch ≤ 2 from ⟨k1,k2,k3,k4⟩)]
           have hd:decide (h.ch ≤ ((2:Nat):Int)) = true := decide_eq_true k4
           rw [hd]
           refine cL0 (told2W w0 true) ?_
           rintro _ _ ⟨rfl,rfl⟩
           conv => whnf
           exact Or.inr ⟨[],.t [.c (.val (.string (strOf h.fix))),.c (.val (.int .i64 ((1:Nat):Int)))],[],⟨rfl,trivial,rfl⟩,rfl,rfl,rfl⟩
         · rw [if_neg (show ¬ (h.str = 0 ∧ h.cou = 0 ∧ h.mapping.size = 0 ∧ h.ch ≤ 2) from fun c => k4 c.2.2.2)]
           have hd:decide (h.ch ≤ ((2:Nat):Int)) = false := decide_eq_false k4
           rw [hd]
           refine cL0 (hno 0) ?_
           rintro _ _ ⟨rfl,rfl⟩
           conv => whnf
           exact Or.inr ⟨[],.t [.c (.val (.string (strOf h.fix))),.c (.val (.int .i64 ((2:Nat):Int)))],[],⟨rfl,trivial,rfl⟩,rfl,rfl,rfl⟩
       · have k3:h.mapping.size ≠ 0 := fun c => strb_f g3 (ByteArray.ext (Array.eq_empty_of_size_eq_zero c))
         rw [if_neg (show ¬ (h.str = 0 ∧ h.cou = 0 ∧ h.mapping.size = 0 ∧ h.ch ≤ 2) from fun c => k3 c.2.2.1)]
         conv => whnf
         refine cL0 (hno 0) ?_
         rintro _ _ ⟨rfl,rfl⟩
         conv => whnf
         exact Or.inr ⟨[],.t [.c (.val (.string (strOf h.fix))),.c (.val (.int .i64 ((2:Nat):Int)))],[],⟨rfl,trivial,rfl⟩,rfl,rfl,rfl⟩
     · have k2:h.cou ≠ 0 := fun c => by rw [c] at g2; exact Bool.noConfusion g2
       rw [if_neg (show ¬ (h.str = 0 ∧ h.cou = 0 ∧ h.mapping.size = 0 ∧ h.ch ≤ 2) from fun c => k2 c.2.1)]
       conv => whnf
       refine cL0 (hno 0) ?_
       rintro _ _ ⟨rfl,rfl⟩
       conv => whnf
       exact Or.inr ⟨[],.t [.c (.val (.string (strOf h.fix))),.c (.val (.int .i64 ((2:Nat):Int)))],[],⟨rfl,trivial,rfl⟩,rfl,rfl,rfl⟩
   · have k1:h.str ≠ 0 := fun c => by rw [c] at g1; exact Bool.noConfusion g1
     rw [if_neg (show ¬ (h.str = 0 ∧ h.cou = 0 ∧ h.mapping.size = 0 ∧ h.ch ≤ 2) from fun c => k1 c.1)]
     conv => whnf
     refine cL0 (hno 0) ?_
     rintro _ _ ⟨rfl,rfl⟩
     conv => whnf
     exact Or.inr ⟨[],.t [.c (.val (.string (strOf h.fix))),.c (.val (.int .i64 ((2:Nat):Int)))],[],⟨rfl,trivial,rfl⟩,rfl,rfl,rfl⟩
 · have k:h.map ≠ 0 := fun c => by rw [c] at g; exact Bool.noConfusion g
   rw [if_neg k]
   conv => whnf
   refine Or.inl ?_
   conv => whnf
   refine ⟨fun g1 => ?_,fun g1 => ?_⟩
   · have k1:h.str < 1 := of_decide_eq_true g1
     rw [if_pos (show h.bad2 from .inl k1)]
     conv => whnf
     exact Or.inr ⟨[],_,[],⟨rfl,trivial,rfl⟩,rfl,rfl,rfl⟩
   have q0:¬ h.str < 1 := of_decide_eq_false g1
   conv => whnf
   refine ⟨fun g1 => ?_,fun g1 => ?_⟩
   · have k1:255 < h.str := of_decide_eq_true g1
     rw [if_pos (show h.bad2 from .inr (.inl k1))]
     conv => whnf
     exact Or.inr ⟨[],_,[],⟨rfl,trivial,rfl⟩,rfl,rfl,rfl⟩
   have q1:¬ 255 < h.str := of_decide_eq_false g1
   conv => whnf
   refine ⟨fun g1 => ?_,fun g1 => ?_⟩
   · have k1:h.cou < 0 := of_decide_eq_true g1
     rw [if_pos (show h.bad2 from .inr (.inr (.inl k1)))]
     conv => whnf
     exact Or.inr ⟨[],_,[],⟨rfl,trivial,rfl⟩,rfl,rfl,rfl⟩
   have q2:¬ h.cou < 0 := of_decide_eq_false g1
   conv => whnf
   refine ⟨fun g1 => ?_,fun g1 => ?_⟩
   · have k1:h.str < h.cou := of_decide_eq_true g1
     rw [if_pos (show h.bad2 from .inr (.inr (.inr (.inl k1))))]
     conv => whnf
     exact Or.inr ⟨[],_,[],⟨rfl,trivial,rfl⟩,rfl,rfl,rfl⟩
   have q3:¬ h.str < h.cou := of_decide_eq_false g1
   conv => whnf
   have w7:IntKind.i64.wrap (h.str + h.cou) = h.str + h.cou := by rw [IntKind.wrap_i64]; omega
   rw [w7]
   refine ⟨fun g1 => ?_,fun g1 => ?_⟩
   · have k1:255 < h.str + h.cou := of_decide_eq_true g1
     rw [if_pos (show h.bad2 from .inr (.inr (.inr (.inr (.inl k1)))))]
     conv => whnf
     exact Or.inr ⟨[],_,[],⟨rfl,trivial,rfl⟩,rfl,rfl,rfl⟩
   have q4:¬ 255 < h.str + h.cou := of_decide_eq_false g1
   conv => whnf
   refine ⟨fun g1 => ?_,fun g1 => ?_⟩
   · have k1:(h.mapping.size:Int) ≠ h.ch := fun c => by
       rw [c] at g1
       simp at g1
     rw [if_pos (show h.bad2 from .inr (.inr (.inr (.inr (.inr (.inl k1))))))]
     conv => whnf
     exact Or.inr ⟨[],_,[],⟨rfl,trivial,rfl⟩,rfl,rfl,rfl⟩
   have q5:(h.mapping.size:Int) = h.ch := by simpa using g1
   conv => whnf
   refine ⟨fun g1 => ?_,fun g1 => ?_⟩
   · have k1:h.map ≠ 1 := fun c => by
       rw [c] at g1
       simp at g1
     conv => whnf
     refine ⟨fun g2 => ?_,fun g2 => ?_⟩
     · have k2:h.map ≠ 255 := fun c => by
         rw [c] at g2
         simp at g2
       rw [if_pos (show h.bad2 from .inr (.inr (.inr (.inr (.inr (.inr ⟨k1,k2⟩))))))]
       conv => whnf
       exact Or.inr ⟨[],_,[],⟨rfl,trivial,rfl⟩,rfl,rfl,rfl⟩
     have k2:h.map = 255 := by simpa using g2
     conv => whnf
     have hnb2:¬ h.bad2 := by
       unfold Hd.bad2
       omega
     rw [if_neg hnb2]
     have w8:IntKind.u8.wrap h.str = h.str := by rw [IntKind.wrap_u8]; omega
     have w9:IntKind.u8.wrap h.cou = h.cou := by rw [IntKind.wrap_u8]; omega
     have hfl:h.fix.length = 19 := by
       unfold Hd.fix opusHead
       simp only [List.length_append,leL_len,List.length_cons,List.length_nil]
     rw [w8,w9]
     refine ⟨trivial,[h.str,h.cou],⟨rfl,rfl,rfl⟩,?_⟩
     conv => whnf
     refine ⟨by show (strOf h.fix).size + (strOf [h.str,h.cou]).size ≤ _; rw [strOf_siz,strOf_siz,hfl]; show 19 + 2 ≤ _; omega,?_⟩
     conv => whnf
     refine ⟨by show (strOf h.fix ++ strOf [h.str,h.cou]).size + h.mapping.size ≤ _; rw [ByteArray.size_append,strOf_siz,strOf_siz,hfl]; show 19 + 2 + _ ≤ _; omega,?_⟩
     conv => whnf
     rw [strOf_add]
     exact Or.inr ⟨[],.t [.c (.val (.string (strOf h.fix ++ strOf [h.str,h.cou] ++ h.mapping))),.c (.val (.int .i64 ((1:Nat):Int)))],[],⟨rfl,trivial,rfl⟩,rfl,rfl,rfl⟩
   · have k1:h.map = 1 := by simpa using g1
     conv => whnf
     have hnb2:¬ h.bad2 := by
       unfold Hd.bad2
       omega
     rw [if_neg hnb2]
     have w8:IntKind.u8.wrap h.str = h.str := by rw [IntKind.wrap_u8]; omega
     have w9:IntKind.u8.wrap h.cou = h.cou := by rw [IntKind.wrap_u8]; omega
     have hfl:h.fix.length = 19 := by
       unfold Hd.fix opusHead
       simp only [List.length_append,leL_len,List.length_cons,List.length_nil]
     rw [w8,w9]
     refine ⟨trivial,[h.str,h.cou],⟨rfl,rfl,rfl⟩,?_⟩
     conv => whnf
     refine ⟨by show (strOf h.fix).size + (strOf [h.str,h.cou]).size ≤ _; rw [strOf_siz,strOf_siz,hfl]; show 19 + 2 ≤ _; omega,?_⟩
     conv => whnf
     refine ⟨by show (strOf h.fix ++ strOf [h.str,h.cou]).size + h.mapping.size ≤ _; rw [ByteArray.size_append,strOf_siz,strOf_siz,hfl]; show 19 + 2 + _ ≤ _; omega,?_⟩
     conv => whnf
     rw [strOf_add]
     exact Or.inr ⟨[],.t [.c (.val (.string (strOf h.fix ++ strOf [h.str,h.cou] ++ h.mapping))),.c (.val (.int .i64 ((1:Nat):Int)))],[],⟨rfl,trivial,rfl⟩,rfl,rfl,rfl⟩
end Go.Proofs.YtokkphocaloelaaGreatDoor

end
section
namespace Go.Proofs.YtokkphocaloelaaGreatDoor
open Go Go.Vc
set_option maxRecDepth 100000
set_option maxHeartbeats 8000000

def hd0:Hd := ⟨0,0,0,0,0,0,0,0,ByteArray.mk #[]⟩
def hdA (b:ByteArray):Hd := ⟨bt (bytesOf b) 8,bt (bytesOf b) 9,bt (bytesOf b) 18,le (((bytesOf b).take 12).drop 10),le (((bytesOf b).take 18).drop 16),le (((bytesOf b).take 16).drop 12),0,0,ByteArray.mk #[]⟩
def hdB (b:ByteArray):Hd := if bt (bytesOf b) 18 = 0 then hdA b else { hdA b with str := bt (bytesOf b) 19,cou := bt (bytesOf b) 20,mapping := b.extract 21 (21 + bt (bytesOf b) 9) }
def hdR (b:ByteArray):Hd × Bool × Nat :=
 if b.size < 19 ∨ (bytesOf b).take 8 ≠ opusHead then (hd0,false,1)
 else if bt (bytesOf b) 18 ≠ 0 ∧ b.size < 21 + bt (bytesOf b) 9 then (hd0,false,if bt (bytesOf b) 18 = 1 ∨ bt (bytesOf b) 18 = 255 then 1 else 2)
 else if (hdB b).text.2 ≠ 1 ∨ (hdB b).text.1 ≠ b ∨ (hdB b).ver ≠ 1 then (hd0,false,2)
 else (hdB b,true,1)
theorem headOfW (w0:World) {b:ByteArray} (hs:b.size ≤ 1099511627776):CallsA Tryz.prog w0 49 [.c (.val (.string b))] [] fun r H => r = .t [.a ((hdR b).1.cells (.slice none 0 0)),.c (.val (.bool (hdR b).2.1)),.c (.val (.int .i64 ((hdR b).2.2:Nat)))] ∧ H = [] := by
 have hbl := bytesOf_len b
 obtain ⟨R,hR⟩:∃ R,R = hdR b := ⟨_,rfl⟩
 rw [← hR]
 unfold hdR at hR
 refine callsA_of_ev c49_ ?_
 conv => whnf
 refine Or.inl ?_
 conv => whnf
 refine ⟨fun g1 => ?_,fun g1 => ?_⟩
 · have g1:b.size < 19 := lt_t g1
   rw [if_pos (.inl g1)] at hR
   subst hR
   conv => whnf
   exact Or.inr ⟨[],_,[],⟨rfl,trivial,rfl⟩,rfl,rfl,rfl⟩
 have g1:19 ≤ b.size := lt_f g1
 conv => whnf
 refine ⟨by omega,?_⟩
 conv => whnf
 refine ⟨fun g2 => ?_,fun g2 => ?_⟩
 · have g2 := strq_f g2
   have g3:(bytesOf b).take 8 ≠ opusHead := fun h => g2 (bytes_inj (by rw [bytes_ext]; exact h))
   rw [if_pos (.inr g3)] at hR
   subst hR
   conv => whnf
   exact Or.inr ⟨[],_,[],⟨rfl,trivial,rfl⟩,rfl,rfl,rfl⟩
 have g2 := strq_t g2
 have g3:(bytesOf b).take 8 = opusHead := by
   have := congrArg bytesOf g2
   rw [bytes_ext] at this
   exact this
 rw [if_neg (by rintro (h | h); exact absurd h (by omega); exact h g3)] at hR
 have hz:∀ i j,i ≤ j → j ≤ b.size → (b.extract i j).size = j - i := fun i j _ h => by
   rw [ByteArray.size_extract]
   omega
 obtain ⟨y8,h8,hb8,hl8⟩ := bt_str (b := b) (i := 8) (by omega)
 obtain ⟨y9,h9,hb9,hl9⟩ := bt_str (b := b) (i := 9) (by omega)
 obtain ⟨y18,h18,hb18,hl18⟩ := bt_str (b := b) (i := 18) (by omega)
 obtain ⟨e1,f1⟩ := le_ext (b := b) (i := 10) (k := 2) (by omega)
 obtain ⟨e2,f2⟩ := le_ext (b := b) (i := 12) (k := 4) (by omega)
 obtain ⟨e3,f3⟩ := le_ext (b := b) (i := 16) (k := 2) (by omega)
 have f1:le (((bytesOf b).take 12).drop 10) < 65536 := f1
 have f2:le (((bytesOf b).take 16).drop 12) < 4294967296 := f2
 have f3:le (((bytesOf b).take 18).drop 16) < 65536 := f3
 conv => whnf
 refine Or.inr ⟨Unit,fun _ => ⟨[(0,.o (.c (.val (.string b)))),(2,.o (.c (.ptr 0 0))),(5,.o (.c (.ptr 1 0)))],[.cells 25 (hd0.cells (.slice none 0 0)),.cells 25 ((hdA b).cells (.slice none 0 0))]⟩,?_,fun _ => ?_⟩
 · conv => whnf
   refine ⟨y8,h8,?_⟩
   rw [hb8]
   conv => whnf
   refine ⟨y9,h9,?_⟩
   rw [hb9]
   conv => whnf
   refine ⟨by omega,?_⟩
   conv => whnf
   refine ⟨by omega,?_⟩
   conv => whnf
   refine ⟨by omega,?_⟩
   conv => whnf
   refine ⟨y18,h18,?_⟩
   rw [hb18]
   conv => whnf
   have c1 := leastOfW w0 (b := b.extract 10 12) (by rw [hz _ _ (by omega) (by omega)]; omega)
   have c2 := leastOfW w0 (b := b.extract 12 16) (by rw [hz _ _ (by omega) (by omega)]; omega)
   have c3 := leastOfW w0 (b := b.extract 16 18) (by rw [hz _ _ (by omega) (by omega)]; omega)
   have hx:some (Blk.cells 25 [CV.val (.int .i64 (IntKind.i64.wrap ((bt (bytesOf b) 8:Nat):Int))),CV.val (.int .i64 (IntKind.i64.wrap ((bt (bytesOf b) 9:Nat):Int))),CV.val (.int .i64 (IntKind.i64.wrap ((bt (bytesOf b) 18:Nat):Int))),CV.val (.int .i64 (IntKind.i64.wrap ((le (bytesOf (b.extract 10 12)):Nat):Int))),CV.val (.int .i64 (IntKind.i64.wrap ((le (bytesOf (b.extract 16 18)):Nat):Int))),CV.val (.int .u32 (IntKind.u32.wrap ((le (bytesOf (b.extract 12 16)):Nat):Int))),CV.val (.int .i64 0),CV.val (.int .i64 0),CV.val (.string (ByteArray.mk #[])),CV.val (.slice none 0 0)]) = some (Blk.cells 25 ((hdA b).cells (.slice none 0 0))) := by
     rw [e1,e2,e3,nwrapi (n := bt (bytesOf b) 8) (by omega),nwrapi (n := bt (bytesOf b) 9) (by omega),nwrapi (n := bt (bytesOf b) 18) (by omega),nwrapi (by omega),nwrapi (by omega),nwrap32 f2]
     rfl
   refine ⟨?_,?_⟩
   · conv => whnf
     refine cL0 (c1) ?_
     rintro _ _ ⟨rfl,rfl⟩
     refine ⟨trivial,?_⟩
     conv => whnf
     refine ⟨?_,?_⟩
     · conv => whnf
       refine cL0 (c2) ?_
       rintro _ _ ⟨rfl,rfl⟩
       refine ⟨trivial,?_⟩
       conv => whnf
       refine ⟨?_,?_⟩
       · conv => whnf
         refine cL0 (c3) ?_
         rintro _ _ ⟨rfl,rfl⟩
         refine ⟨trivial,?_⟩
         conv => whnf
         refine ⟨trivial,?_⟩
         conv => whnf
         refine ⟨trivial,?_⟩
         conv => whnf
         exact ⟨(),[0,1],⟨rfl,⟨rfl,rfl,hx,rfl,trivial⟩,rfl⟩,rfl,rfl,rfl,trivial⟩
       · conv => whnf
         refine ⟨trivial,?_⟩
         conv => whnf
         refine cL0 (c3) ?_
         rintro _ _ ⟨rfl,rfl⟩
         refine ⟨trivial,?_⟩
         conv => whnf
         refine ⟨trivial,?_⟩
         conv => whnf
         exact ⟨(),[0,1],⟨rfl,⟨rfl,rfl,hx,rfl,trivial⟩,rfl⟩,rfl,rfl,rfl,trivial⟩
     · conv => whnf
       refine ⟨trivial,?_⟩
       conv => whnf
       refine cL0 (c2) ?_
       rintro _ _ ⟨rfl,rfl⟩
       refine ⟨trivial,?_⟩
       conv => whnf
       refine cL0 (c3) ?_
       rintro _ _ ⟨rfl,rfl⟩
       refine ⟨trivial,?_⟩
       conv => whnf
       refine ⟨trivial,?_⟩
       conv => whnf
       exact ⟨(),[0,1],⟨rfl,⟨rfl,rfl,hx,rfl,trivial⟩,rfl⟩,rfl,rfl,rfl,trivial⟩
   · conv => whnf
     refine ⟨trivial,?_⟩
     conv => whnf
     refine cL0 (c1) ?_
     rintro _ _ ⟨rfl,rfl⟩
     refine ⟨trivial,?_⟩
     conv => whnf
     refine cL0 (c2) ?_
     rintro _ _ ⟨rfl,rfl⟩
     refine ⟨trivial,?_⟩
     conv => whnf
     refine cL0 (c3) ?_
     rintro _ _ ⟨rfl,rfl⟩
     refine ⟨trivial,?_⟩
     conv => whnf
     refine ⟨trivial,?_⟩
     conv => whnf
     exact ⟨(),[0,1],⟨rfl,⟨rfl,rfl,hx,rfl,trivial⟩,rfl⟩,rfl,rfl,rfl,trivial⟩
 have hAmap:(hdA b).map = ((bt (bytesOf b) 18:Nat):Int) := rfl
 have hAch:(hdA b).ch = ((bt (bytesOf b) 9:Nat):Int) := rfl
 refine Or.inr ⟨PLift (¬ (bt (bytesOf b) 18 ≠ 0 ∧ b.size < 21 + bt (bytesOf b) 9)),fun _ => ⟨[(0,.o (.c (.val (.string b)))),(2,.o (.c (.ptr 0 0))),(5,.o (.c (.ptr 1 0)))],[.cells 25 (hd0.cells (.slice none 0 0)),.cells 25 ((hdB b).cells (.slice none 0 0))]⟩,?_,fun ⟨hn⟩ => ?_⟩
 · conv => whnf
   refine ⟨fun g4 => ?_,fun g4 => ?_⟩
   · have g4 := of_bne (b := 0) g4
     conv => whnf
     refine Or.inr ⟨PLift (21 + bt (bytesOf b) 9 ≤ b.size),fun _ => ⟨[(0,.o (.c (.val (.string b)))),(2,.o (.c (.ptr 0 0))),(5,.o (.c (.ptr 1 0)))],[.cells 25 (hd0.cells (.slice none 0 0)),.cells 25 ((hdA b).cells (.slice none 0 0))]⟩,?_,fun ⟨g5⟩ => ?_⟩
     · conv => whnf
       rw [hAch,nadd 21 (bt (bytesOf b) 9),nwrapi (n := 21 + bt (bytesOf b) 9) (by omega)]
       refine ⟨fun g5 => ?_,fun g5 => ?_⟩
       · have g5:b.size < 21 + bt (bytesOf b) 9 := lt_t g5
         rw [if_pos ⟨g4,g5⟩] at hR
         conv => whnf
         refine ⟨fun g6 => ?_,fun g6 => ?_⟩
         · have g6:bt (bytesOf b) 18 = 1 := by
             have := eq_of_beq g6
             omega
           rw [if_pos (.inl g6)] at hR
           subst hR
           conv => whnf
           refine cL0 (told2W w0 true) ?_
           rintro _ _ ⟨rfl,rfl⟩
           conv => whnf
           exact Or.inr ⟨[],_,[],⟨rfl,trivial,rfl⟩,rfl,rfl,rfl⟩
         · have g6:bt (bytesOf b) 18 ≠ 1 := beq_f (a := bt (bytesOf b) 18) (b := 1) g6
           conv => whnf
           by_cases g7:bt (bytesOf b) 18 = 255
           · rw [if_pos (.inr g7)] at hR
             subst hR
             have hd:((hdA b).map == ((255:Nat):Int)) = true := by rw [hAmap,g7]; rfl
             rw [hd]
             refine cL0 (told2W w0 true) ?_
             rintro _ _ ⟨rfl,rfl⟩
             conv => whnf
             exact Or.inr ⟨[],_,[],⟨rfl,trivial,rfl⟩,rfl,rfl,rfl⟩
           · rw [if_neg (by rintro (h | h); exact g6 h; exact g7 h)] at hR
             subst hR
             have hd:((hdA b).map == ((255:Nat):Int)) = false := by
               rw [hAmap,beq_eq_false_iff_ne]
               omega
             rw [hd]
             refine cL0 (told2W w0 false) ?_
             rintro _ _ ⟨rfl,rfl⟩
             conv => whnf
             exact Or.inr ⟨[],_,[],⟨rfl,trivial,rfl⟩,rfl,rfl,rfl⟩
       · have g5:21 + bt (bytesOf b) 9 ≤ b.size := lt_f g5
         conv => whnf
         exact ⟨⟨g5⟩,[0,1],⟨rfl,⟨rfl,rfl,rfl,rfl,trivial⟩,rfl⟩,rfl,rfl,rfl,trivial⟩
     obtain ⟨y19,h19,hb19,hl19⟩ := bt_str (b := b) (i := 19) (by omega)
     obtain ⟨y20,h20,hb20,hl20⟩ := bt_str (b := b) (i := 20) (by omega)
     conv => whnf
     refine ⟨y19,h19,?_⟩
     rw [hb19]
     conv => whnf
     refine ⟨y20,h20,?_⟩
     rw [hb20]
     conv => whnf
     rw [hAch,nadd 21 (bt (bytesOf b) 9),nwrapi (n := 21 + bt (bytesOf b) 9) (by omega),nwrapi (n := bt (bytesOf b) 19) (by omega),nwrapi (n := bt (bytesOf b) 20) (by omega)]
     refine ⟨⟨by omega,by omega,by omega⟩,?_⟩
     conv => whnf
     refine ⟨trivial,?_⟩
     conv => whnf
     refine ⟨trivial,?_⟩
     conv => whnf
     refine ⟨trivial,?_⟩
     conv => whnf
     refine ⟨⟨fun h => absurd h.2 (by omega)⟩,[0,1],⟨rfl,⟨rfl,rfl,?_,rfl,trivial⟩,rfl⟩,rfl,rfl,rfl,trivial⟩
     unfold hdB
     rw [if_neg g4]
     rfl
   · have g4 := of_bne_f (b := 0) g4
     conv => whnf
     refine ⟨⟨fun h => h.1 g4⟩,[0,1],⟨rfl,⟨rfl,rfl,?_,rfl,trivial⟩,rfl⟩,rfl,rfl,rfl,trivial⟩
     unfold hdB
     rw [if_pos g4]
     rfl
 rw [if_neg hn] at hR
 have hmz:(hdB b).mapping.size ≤ 2147483647 := by
   unfold hdB
   split
   · exact Nat.zero_le _
   · show (b.extract 21 (21 + bt (bytesOf b) 9)).size ≤ _
     rw [ByteArray.size_extract]
     omega
 have hra:(hdB b).rate < 4294967296 := by
   unfold hdB
   split
   · exact f2
   · exact f2
 have hin:∀ x ∈ [(hdB b).ver,(hdB b).ch,(hdB b).map,(hdB b).skip,(hdB b).gain,(hdB b).str,(hdB b).cou],-9223372036854775808 ≤ x ∧ x < 9223372036854775808 := by
   have h0:∀ n:Nat,n < 9223372036854775808 → -9223372036854775808 ≤ (n:Int) ∧ (n:Int) < 9223372036854775808 := fun n h => by omega
   by_cases g4:bt (bytesOf b) 18 = 0
   · rw [show hdB b = hdA b from if_pos g4]
     intro x hx
     simp only [hdA,List.mem_cons,List.not_mem_nil,or_false] at hx
     rcases hx with rfl | rfl | rfl | rfl | rfl | rfl | rfl <;> omega
   · rw [show hdB b = { hdA b with str := bt (bytesOf b) 19,cou := bt (bytesOf b) 20,mapping := b.extract 21 (21 + bt (bytesOf b) 9) } from if_neg g4]
     obtain ⟨y19,h19,hb19,hl19⟩ := bt_str (b := b) (i := 19) (by omega)
     obtain ⟨y20,h20,hb20,hl20⟩ := bt_str (b := b) (i := 20) (by omega)
     intro x hx
     simp only [hdA,List.mem_cons,List.not_mem_nil,or_false] at hx
     rcases hx with rfl | rfl | rfl | rfl | rfl | rfl | rfl <;> omega
 have hver:((hdB b).ver != ((1:Nat):Int)) = decide ((hdB b).ver ≠ 1) := by
   rw [Bool.eq_iff_iff]
   simp
 conv => whnf
 refine cL0 (headTextW w0 (hdB b) hra hin hmz) ?_
 rintro _ _ ⟨rfl,rfl⟩
 conv => whnf
 have htm:(hdB b).textM 0 = (hdB b).text := if_neg (by omega)
 rw [htm]
 refine Or.inl ?_
 conv => whnf
 refine ⟨fun g6 => ?_,fun g6 => ?_⟩
 · have g6 := of_bne (b := 1) g6
   rw [if_pos (.inl g6)] at hR
   subst hR
   conv => whnf
   exact Or.inr ⟨[],_,[],⟨rfl,trivial,rfl⟩,rfl,rfl,rfl⟩
 have g6 := of_bne_f (b := 1) g6
 conv => whnf
 refine ⟨fun g7 => ?_,fun g7 => ?_⟩
 · have g7 := strq_f g7
   rw [if_pos (.inr (.inl g7))] at hR
   subst hR
   conv => whnf
   exact Or.inr ⟨[],_,[],⟨rfl,trivial,rfl⟩,rfl,rfl,rfl⟩
 have g7 := strq_t g7
 conv => whnf
 rw [hver]
 refine ⟨fun g8 => ?_,fun g8 => ?_⟩
 · have g8 := of_decide_eq_true g8
   rw [if_pos (.inr (.inr g8))] at hR
   subst hR
   conv => whnf
   exact Or.inr ⟨[],_,[],⟨rfl,trivial,rfl⟩,rfl,rfl,rfl⟩
 have g8 := of_decide_eq_false g8
 rw [if_neg (by rintro (h | h | h); exact h g6; exact h g7; exact g8 h)] at hR
 subst hR
 conv => whnf
 exact Or.inr ⟨[],_,[],⟨rfl,trivial,rfl⟩,rfl,rfl,rfl⟩
end Go.Proofs.YtokkphocaloelaaGreatDoor

end
section
namespace Go.Proofs.YtokkphocaloelaaGreatDoor
open Go Go.Vc
set_option maxRecDepth 100000
set_option maxHeartbeats 8000000

def psz:List ByteArray → Nat
 | [] => 0
 | x :: r => x.size + psz r
theorem psz_add (a b:List ByteArray):psz (a ++ b) = psz a + psz b := by
 induction a with
 | nil => simp [psz]
 | cons x r ih => rw [List.cons_append,psz,psz,ih]; omega
theorem psz_mem {l:List ByteArray} {x:ByteArray} (h:x ∈ l):x.size ≤ psz l := by
 induction l with
 | nil => cases h
 | cons y r ih =>
   rw [psz]
   rcases List.mem_cons.1 h with rfl | h
   · omega
   · have := ih h
     omega
theorem prS_psz (b:ByteArray) (n:Nat):∀ i,27 + n + psz (prS b n i).2.2.1 ≤ (prS b n i).2.1
 | 0 => Nat.le_refl _
 | i + 1 => by
   have h1 := prS_psz b n i
   have h2 := prS_from b n i
   simp only [prS]
   split
   · show 27 + n + psz ((prS b n i).2.2.1 ++ [_]) ≤ (prS b n i).1 + _
     rw [psz_add]
     show 27 + n + (_ + ((b.extract _ _).size + 0)) ≤ _
     rw [ByteArray.size_extract]
     omega
   · exact h1
def Pg.wt (p:Pg):Nat := 27 + p.parts.length + psz p.parts
def Pg.fits (p:Pg):Prop := p.ser < 4294967296 ∧ p.seq < 4294967296 ∧ p.gran < 18446744073709551616 ∧ 0 ≤ p.flags ∧ p.flags < 256
theorem bt_lt {L:List Int} (h:Byt L) (i:Nat):bt L i < 256 := by
 unfold bt
 rw [List.getD_eq_getElem?_getD]
 cases h1:L[i]? with
 | none => decide
 | some x =>
   have := h x (List.mem_of_getElem? h1)
   rw [Option.getD_some]
   omega
theorem pageP_wt {b:ByteArray} {p:Pg} {k:Nat} (h:pageP b = some (p,k)):p.wt ≤ k ∧ p.fits := by
 unfold pageP at h
 simp only at h
 split at h
 · cases h
 · rename_i hn
   have h1 := prS_psz b (bt (bytesOf b) 26) (bt (bytesOf b) 26)
   have h2 := prS_from b (bt (bytesOf b) 26) (bt (bytesOf b) 26)
   have h3 := prS_len b (bt (bytesOf b) 26) (bt (bytesOf b) 26)
   have hs:¬ b.size < 27 := fun h => hn (.inl h)
   have h5 := bt_lt (byt_bytes b) 5
   obtain ⟨_,f1⟩ := le_ext (b := b) (i := 14) (k := 4) (by omega)
   obtain ⟨_,f2⟩ := le_ext (b := b) (i := 18) (k := 4) (by omega)
   obtain ⟨_,f3⟩ := le_ext (b := b) (i := 6) (k := 8) (by omega)
   cases h
   refine ⟨?_,f1,f2,f3,Int.natCast_nonneg _,by show ((bt (bytesOf b) 5:Nat):Int) < 256; omega⟩
   show 27 + (prS b (bt (bytesOf b) 26) (bt (bytesOf b) 26)).2.2.1.length + psz (prS b (bt (bytesOf b) 26) (bt (bytesOf b) 26)).2.2.1 ≤ _
   omega
def wts:List Pg → Nat
 | [] => 0
 | p :: r => p.wt + wts r
theorem wts_add (a b:List Pg):wts (a ++ b) = wts a + wts b := by
 induction a with
 | nil => simp [wts]
 | cons x r ih => rw [List.cons_append,wts,wts,ih]; omega
theorem oggP_wt:∀ (f:Nat) (b:ByteArray),wts (oggP f b).1 ≤ b.size ∧ ∀ p ∈ (oggP f b).1,p.fits
 | 0,_ => ⟨Nat.zero_le _,fun _ h => nomatch h⟩
 | f + 1,b => by
   unfold oggP
   by_cases h0:b.size = 0
   · rw [if_pos h0]
     exact ⟨Nat.zero_le _,fun _ h => nomatch h⟩
   · rw [if_neg h0]
     cases hp:pageP b with
     | none => exact ⟨Nat.zero_le _,fun _ h => nomatch h⟩
     | some x =>
       obtain ⟨p,k⟩ := x
       have hk := pageP_facts hp
       have hw := pageP_wt hp
       have hz:(b.extract k b.size).size = b.size - k := by rw [ByteArray.size_extract]; omega
       have ih := oggP_wt f (b.extract k b.size)
       refine ⟨?_,fun q hq => ?_⟩
       · show p.wt + wts (oggP f (b.extract k b.size)).1 ≤ b.size
         omega
       · rcases List.mem_cons.1 hq with rfl | h
         · exact hw.2
         · exact ih.2 q h
theorem oggR_wt (b:ByteArray):wts (oggR b).1 ≤ b.size ∧ ∀ p ∈ (oggR b).1,p.fits := oggP_wt _ b
def hrR (b:ByteArray):Hd × Bool × Nat := match pageP b with
 | none => (hd0,false,if b.size < 27 ∨ (bytesOf b).take 5 ≠ oggS then 1 else 2)
 | some (p,_) => if p.flags ≠ 2 ∨ p.parts.length ≠ 1 ∨ p.more = true then (hd0,false,2) else hdR (p.parts.headD (ByteArray.mk #[]))
theorem headReadW (w0:World) {b:ByteArray} (hs:b.size ≤ 1099511627776):CallsA Tryz.prog w0 23 [.c (.val (.string b))] [] fun r H => r = .t [.a ((hrR b).1.cells (.slice none 0 0)),.c (.val (.bool (hrR b).2.1)),.c (.val (.int .i64 ((hrR b).2.2:Nat)))] ∧ H = [] := by
 have hbl := bytesOf_len b
 have hpr := pageReadW w0 hs
 obtain ⟨R,hR⟩:∃ R,R = hrR b := ⟨_,rfl⟩
 rw [← hR]
 unfold hrR at hR
 refine callsA_of_ev c23_ ?_
 conv => whnf
 cases hp:pageP b with
 | none =>
   rw [hp] at hpr hR
   simp only at hR
   refine cL0 (hpr) ?_
   rintro _ _ ⟨rfl,rfl⟩
   conv => whnf
   refine Or.inl ?_
   conv => whnf
   refine ⟨fun _ => ?_,fun g => zT g⟩
   conv => whnf
   refine ⟨fun g1 => ?_,fun g1 => ?_⟩
   · have g1:b.size < 27 := lt_t g1
     rw [if_pos (.inl g1)] at hR
     subst hR
     conv => whnf
     refine cL0 (told2W w0 true) ?_
     rintro _ _ ⟨rfl,rfl⟩
     conv => whnf
     exact Or.inr ⟨[],_,[],⟨rfl,trivial,rfl⟩,rfl,rfl,rfl⟩
   · have g1:27 ≤ b.size := lt_f g1
     conv => whnf
     refine ⟨by omega,?_⟩
     conv => whnf
     by_cases g2:b.extract 0 5 = ByteArray.mk #[79,103,103,83,0]
     · have hd:(!((b.extract 0 5).toList == (ByteArray.mk #[79,103,103,83,0]).toList)) = false := by rw [g2]; simp
       have g3:(bytesOf b).take 5 = oggS := by
         have := congrArg bytesOf g2
         rw [bytes_ext] at this
         exact this
       rw [if_neg (by rintro (h | h); exact absurd h (by omega); exact h g3)] at hR
       subst hR
       refine cL0 (by
         have := told2W w0 (!((b.extract 0 5).toList == (ByteArray.mk #[79,103,103,83,0]).toList))
         exact this) ?_
       rw [hd]
       rintro _ _ ⟨rfl,rfl⟩
       conv => whnf
       exact Or.inr ⟨[],_,[],⟨rfl,trivial,rfl⟩,rfl,rfl,rfl⟩
     · have hd:(!((b.extract 0 5).toList == (ByteArray.mk #[79,103,103,83,0]).toList)) = true := by
         cases h:(!((b.extract 0 5).toList == (ByteArray.mk #[79,103,103,83,0]).toList)) with
         | true => rfl
         | false => exact absurd (strq_t h) g2
       have g3:(bytesOf b).take 5 ≠ oggS := fun h => g2 (bytes_inj (by rw [bytes_ext]; exact h))
       rw [if_pos (.inr g3)] at hR
       subst hR
       refine cL0 (by
         have := told2W w0 (!((b.extract 0 5).toList == (ByteArray.mk #[79,103,103,83,0]).toList))
         exact this) ?_
       rw [hd]
       rintro _ _ ⟨rfl,rfl⟩
       conv => whnf
       exact Or.inr ⟨[],_,[],⟨rfl,trivial,rfl⟩,rfl,rfl,rfl⟩
 | some x =>
   obtain ⟨p,k⟩ := x
   have hk := pageP_facts hp
   have hwt := (pageP_wt hp).1
   rw [hp] at hpr hR
   simp only at hR
   obtain ⟨a,q,c,d,parts,m⟩ := p
   simp only [Pg.wt] at hwt hR
   cases parts with
   | nil =>
     rw [if_pos (.inr (.inl (by decide)))] at hR
     subst hR
     refine cL0 (hpr) ?_
     rintro _ _ ⟨rfl,rfl⟩
     conv => whnf
     refine Or.inl ?_
     conv => whnf
     refine ⟨fun g => zF g,fun _ => ?_⟩
     conv => whnf
     refine Or.inl ?_
     conv => whnf
     refine ⟨fun g1 => ?_,fun g1 => ?_⟩
     · conv => whnf
       exact Or.inr ⟨[],_,[],⟨rfl,trivial,rfl⟩,rfl,rfl,rfl⟩
     · conv => whnf
       refine ⟨fun _ => ?_,fun g => zT g⟩
       conv => whnf
       exact Or.inr ⟨[],_,[],⟨rfl,trivial,rfl⟩,rfl,rfl,rfl⟩
   | cons x xr =>
     have hx:x.size ≤ psz (x :: xr) := psz_mem (List.mem_cons_self ..)
     refine cL0 (hpr) ?_
     rintro _ _ ⟨rfl,rfl⟩
     conv => whnf
     refine Or.inl ?_
     conv => whnf
     refine ⟨fun g => zF g,fun _ => ?_⟩
     conv => whnf
     refine Or.inl ?_
     conv => whnf
     refine ⟨fun g1 => ?_,fun g1 => ?_⟩
     · have g1:d ≠ 2 := fun h => by rw [h] at g1; exact Bool.noConfusion g1
       rw [if_pos (.inl g1)] at hR
       subst hR
       conv => whnf
       exact Or.inr ⟨[],_,[],⟨rfl,trivial,rfl⟩,rfl,rfl,rfl⟩
     have k1:d = 2 := by
       have h:(d != ((2:Nat):Int)) = false := g1
       simpa using h
     conv => whnf
     refine ⟨fun g2 => ?_,fun g2 => ?_⟩
     · have g2:(x :: xr).length ≠ 1 := of_bne (a := (x :: xr).length) (b := 1) g2
       rw [if_pos (.inr (.inl g2))] at hR
       subst hR
       conv => whnf
       exact Or.inr ⟨[],_,[],⟨rfl,trivial,rfl⟩,rfl,rfl,rfl⟩
     have g2:xr.length + 1 = 1 := of_bne_f (b := 1) g2
     obtain rfl:xr = [] := List.eq_nil_of_length_eq_zero (by omega)
     cases m with
     | true =>
       rw [if_pos (.inr (.inr rfl))] at hR
       subst hR
       conv => whnf
       refine ⟨fun _ => ?_,fun g => zT g⟩
       conv => whnf
       exact Or.inr ⟨[],_,[],⟨rfl,trivial,rfl⟩,rfl,rfl,rfl⟩
     | false =>
       rw [if_neg (by rintro (h | h | h); exact h k1; exact h rfl; exact Bool.noConfusion h)] at hR
       conv => whnf
       refine ⟨fun g => zF g,fun _ => ?_⟩
       conv => whnf
       refine ⟨⟨Int.le_refl _,show (0:Int) < ((1:Nat):Int) by decide⟩,?_⟩
       conv => whnf
       refine ⟨x,?_⟩
       conv => whnf
       refine ⟨rfl,?_⟩
       conv => whnf
       refine cL0 (headOfW w0 (b := x) (by omega)) ?_
       rintro _ _ ⟨rfl,rfl⟩
       conv => whnf
       subst hR
       exact Or.inr ⟨[],_,[],⟨rfl,trivial,rfl⟩,rfl,rfl,rfl⟩
def stR (b:ByteArray):List Pg × Bool := if (hrR b).2.1 = false ∨ (hrR b).2.2 ≠ 1 ∨ (oggR b).2 = false ∨ (oggR b).1 = [] then ([],false) else ((oggR b).1,true)
theorem streamW (w0:World) {b:ByteArray} (hs:b.size ≤ 1099511627776):CallsA Tryz.prog w0 26 [.c (.val (.string b))] [] fun r H =>
   ((stR b).2 = false ∧ r = .t [.c (.val (.slice none 0 0)),.c (.val (.bool false))] ∧ H = []) ∨
   ((stR b).2 = true ∧ ∃ o n c,(stR b).1.length = n + 1 ∧ (n = 0 ∨ o = 1) ∧ r = .t [.c (.sli 0 6 o n c),.c (.val (.bool true))] ∧ H = pgsH (stR b).1) := by
 obtain ⟨R,hR⟩:∃ R,R = stR b := ⟨_,rfl⟩
 rw [← hR]
 unfold stR at hR
 have hh := headReadW w0 hs
 have ho := oggReadW w0 hs
 generalize hrR b = hr at hh hR
 obtain ⟨hd,hok,ht⟩ := hr
 generalize oggR b = og at ho hR
 obtain ⟨ps,wh⟩ := og
 simp only at hR hh ho
 refine callsA_of_ev c26_ ?_
 conv => whnf
 refine Or.inr ⟨PLift (hok = true ∧ ht = 1),fun _ => ⟨[(0,.o (.c (.val (.string b))))],[]⟩,?_,fun ⟨h1,h2⟩ => ?_⟩
 · conv => whnf
   refine cL0 (hh) ?_
   rintro _ _ ⟨rfl,rfl⟩
   conv => whnf
   cases hok with
   | false =>
     rw [if_pos (.inl rfl)] at hR
     subst hR
     refine ⟨fun _ => ?_,fun g => zT g⟩
     conv => whnf
     exact Or.inr ⟨[],.t [.c (.val (.slice none 0 0)),.c (.val (.bool false))],[],⟨rfl,trivial,rfl⟩,rfl,.inl ⟨rfl,rfl,rfl⟩⟩
   | true =>
     refine ⟨fun g => zF g,fun _ => ?_⟩
     conv => whnf
     refine ⟨fun g1 => ?_,fun g1 => ?_⟩
     · have g1 := of_bne (b := 1) g1
       rw [if_pos (.inr (.inl g1))] at hR
       subst hR
       conv => whnf
       exact Or.inr ⟨[],.t [.c (.val (.slice none 0 0)),.c (.val (.bool false))],[],⟨rfl,trivial,rfl⟩,rfl,.inl ⟨rfl,rfl,rfl⟩⟩
     · have g1 := of_bne_f (b := 1) g1
       conv => whnf
       exact ⟨⟨rfl,g1⟩,[],⟨rfl,trivial,rfl⟩,rfl,trivial⟩
 conv => whnf
 refine cL0 (ho) ?_
 rintro _ _ ⟨rfl,rfl⟩
 conv => whnf
 cases wh with
 | false =>
   rw [if_pos (.inr (.inr (.inl rfl)))] at hR
   subst hR
   refine Or.inl ?_
   conv => whnf
   refine ⟨fun _ => ?_,fun g => zT g⟩
   conv => whnf
   exact Or.inr ⟨[],.t [.c (.val (.slice none 0 0)),.c (.val (.bool false))],[],⟨rfl,trivial,rfl⟩,rfl,.inl ⟨rfl,rfl,rfl⟩⟩
 | true =>
   cases ps with
   | nil =>
     rw [if_pos (.inr (.inr (.inr rfl)))] at hR
     subst hR
     refine Or.inl ?_
     conv => whnf
     refine ⟨fun g => zF g,fun _ => ?_⟩
     conv => whnf
     refine ⟨fun _ => ?_,fun g => zT g⟩
     conv => whnf
     exact Or.inr ⟨[],.t [.c (.val (.slice none 0 0)),.c (.val (.bool false))],[],⟨rfl,trivial,rfl⟩,rfl,.inl ⟨rfl,rfl,rfl⟩⟩
   | cons p0 pr =>
     rw [if_neg (by rintro (h | h | h | h); exact Bool.noConfusion (h1.symm.trans h); exact h h2; exact Bool.noConfusion h; exact List.noConfusion rfl (heq_of_eq h))] at hR
     subst hR
     refine Or.inl ?_
     conv => whnf
     refine ⟨fun g => zF g,fun _ => ?_⟩
     conv => whnf
     refine ⟨fun g => ?_,fun _ => ?_⟩
     · have := of_decide_eq_true g
       have h3:(p0 :: pr).length = pr.length + 1 := rfl
       omega
     conv => whnf
     refine ⟨⟨by omega,by show (1:Int) ≤ ((pr.length + 1:Nat):Int); omega,Int.le_refl _⟩,.inl ⟨fun c hc1 hc2 => ?_,fun hl => ?_,fun hl h0 => ?_⟩⟩
     · conv => whnf
       exact Or.inr ⟨[0,1],.t [.c (.sli 0 6 1 pr.length (c - 1)),.c (.val (.bool true))],pgsH (p0 :: pr),⟨rfl,⟨rfl,rfl,rfl,rfl,trivial⟩,rfl⟩,rfl,.inr ⟨rfl,1,pr.length,c - 1,rfl,.inr rfl,rfl,rfl⟩⟩
     · have hl:pr.length = 0 := by
         have h3:(p0 :: pr).length = pr.length + 1 := rfl
         omega
       obtain rfl := List.eq_nil_of_length_eq_zero hl
       conv => whnf
       exact Or.inr ⟨[0,1],.t [.c (.sli 0 6 0 0 0),.c (.val (.bool true))],pgsH [p0],⟨rfl,⟨rfl,rfl,rfl,rfl,trivial⟩,rfl⟩,rfl,.inr ⟨rfl,0,0,0,rfl,.inl rfl,rfl,rfl⟩⟩
     · have h3:(p0 :: pr).length = pr.length + 1 := rfl
       omega
end Go.Proofs.YtokkphocaloelaaGreatDoor

end
section
namespace Go.Proofs.YtokkphocaloelaaGreatDoor
open Go Go.Vc
set_option maxRecDepth 100000
set_option maxHeartbeats 8000000

structure PkS where
 op:ByteArray
 go:Bool
 l:List (ByteArray × Nat)
def eS:ByteArray := ByteArray.mk #[]
def PkS.put (g:Nat) (s:PkS) (x:ByteArray):PkS := ⟨eS,false,s.l ++ [(s.op ++ x,g)]⟩
def prt (g:Nat) (m:Bool):List ByteArray → PkS → PkS
 | [],s => s
 | x :: r,s => if r = [] ∧ m = true then ⟨s.op ++ x,true,s.l⟩ else prt g m r (s.put g x)
def badPg (ser0:Nat) (prev:Option Nat) (p:Pg) (go:Bool):Prop := p.ser ≠ ser0 ∨ (∃ q,prev = some q ∧ p.seq ≠ (q + 1) % 4294967296) ∨ (p.flags % 2 ≠ 0) ≠ (go = true)
instance (ser0:Nat) (prev:Option Nat) (p:Pg) (go:Bool):Decidable (badPg ser0 prev p go) := by
 unfold badPg
 cases prev with
 | none => exact decidable_of_iff (p.ser ≠ ser0 ∨ (p.flags % 2 ≠ 0) ≠ (go = true)) (by simp)
 | some q => exact decidable_of_iff (p.ser ≠ ser0 ∨ p.seq ≠ (q + 1) % 4294967296 ∨ (p.flags % 2 ≠ 0) ≠ (go = true)) (by simp)
def pks (ser0:Nat):Option Nat → List Pg → PkS → Option PkS
 | _,[],s => some s
 | prev,p :: r,s => if badPg ser0 prev p s.go then none else if p.parts = [] ∧ s.go = true then none else pks ser0 (some p.seq) r (prt p.gran p.more p.parts s)
def packsP (l:List Pg):Option PkS := pks (match l with | p :: _ => p.ser | [] => 0) none l ⟨eS,false,[]⟩
theorem rowsP_get:∀ (ps:List Pg) (j i:Nat) (p:Pg),ps[i]? = some p → ∃ k,(rowsP j ps)[i]? = some (p,k) ∧ (p.parts ≠ [] → j ≤ k ∧ (famOf ps)[k - j]? = some p.parts)
 | [],_,_,_,h => by simp at h
 | q :: r,j,0,p,h => by
   obtain rfl:q = p := by simpa using h
   refine ⟨j,rfl,fun hp => ⟨Nat.le_refl _,?_⟩⟩
   rw [Nat.sub_self]
   unfold famOf
   have:q.parts.isEmpty = false := by cases h1:q.parts with | nil => exact absurd h1 hp | cons => rfl
   simp [this]
 | q :: r,j,i + 1,p,h => by
   rw [List.getElem?_cons_succ] at h
   obtain ⟨k,h1,h2⟩ := rowsP_get r (if q.parts.isEmpty then j else j + 1) i p h
   refine ⟨k,h1,fun hp => ?_⟩
   obtain ⟨h3,h4⟩ := h2 hp
   cases he:q.parts.isEmpty with
   | true =>
     rw [he,if_pos rfl] at h3 h4
     refine ⟨h3,?_⟩
     unfold famOf at h4 ⊢
     simpa [he] using h4
   | false =>
     rw [he,if_neg Bool.false_ne_true] at h3 h4
     refine ⟨by omega,?_⟩
     rw [show k - j = (k - (j + 1)) + 1 by omega]
     unfold famOf at h4 ⊢
     simpa [he] using h4
def grB (l:List Nat):Blk := .vec true 39 (encI .u64) [] 1 (l.map fun (n:Nat) => (n:Int))
def pkV (i:Nat) (l:List (ByteArray × Nat)):CV := match l with
 | [] => .val (.slice none 0 0)
 | _ :: _ => .vec i l.length
def pkH (l:List (ByteArray × Nat)):List Blk := match l with
 | [] => []
 | _ :: _ => [strB (l.map Prod.fst),grB (l.map Prod.snd)]
def pkE (o n cc j:Nat) (i:Nat) (op:ByteArray) (go:Bool) (l:List (ByteArray × Nat)):Env := [(0,.o (.c (.sli 0 6 o n cc))),(2,.o (.c (pkV i l))),(3,.o (.c (pkV (i + 1) l))),(6,.o (.c (.val (.string op)))),(7,.o (.c (.kb go))),(12,.o (.c (.sli 0 6 o n cc))),(13,.o (.c (.val (.int .i64 n)))),(14,.o (.c (.val (.int .i64 j))))]
def pkSt (ps:List Pg) (o n cc j:Nat) (op:ByteArray) (go:Bool) (l:List (ByteArray × Nat)):S := ⟨pkE o n cc j 2 op go l,pgsB 1 ps :: famB ps :: pkH l⟩
def pkIn (ps:List Pg) (p:Pg) (f L:Nat) (o n cc j k:Nat) (op:ByteArray) (go:Bool) (l:List (ByteArray × Nat)):S := ⟨(9,.o (.c (.ptr 2 0))) :: (51,.o (.c (.mem 1 f L))) :: (52,.o (.c (.val (.int .i64 (L:Nat))))) :: (53,.o (.c (.val (.int .i64 k)))) :: pkE o n cc j 3 op go l,pgsB 1 ps :: famB ps :: .cells 57 (pgM p 1 f) :: pkH l⟩
def pkOut (ps:List Pg) (p:Pg) (f:Nat) (o n cc j:Nat) (op:ByteArray) (go:Bool) (l:List (ByteArray × Nat)):S := ⟨(9,.o (.c (.ptr 2 0))) :: pkE o n cc j 3 op go l,pgsB 1 ps :: famB ps :: .cells 57 (match p.parts with | [] => pgC p 0 | _ :: _ => pgM p 1 f) :: pkH l⟩
theorem flag1 {d:Int} (h0:0 ≤ d) (h1:d < 256):(IntKind.i64.wrap (((BitVec.ofInt IntKind.i64.bits d &&& BitVec.ofInt IntKind.i64.bits ((1:Nat):Int)).toNat:Nat):Int) != ((0:Nat):Int)) = decide (d % 2 ≠ 0) := by
 obtain ⟨n,rfl⟩:∃ n:Nat,d = (n:Int) := ⟨d.toNat,by omega⟩
 rw [nandi (by omega) (by omega),Nat.and_one_is_mod,Bool.eq_iff_iff]
 simp
def pvS (l:List Pg):Nat → Option Nat
 | 0 => none
 | i + 1 => (l[i]?).map Pg.seq
theorem pk_bad {p:Pg} {go:Bool} (h:(!(decide (p.flags % 2 ≠ 0) == go)) = true):(p.flags % 2 ≠ 0) ≠ (go = true) := by
 intro e
 have e:(p.flags % 2 ≠ 0) ↔ (go = true) := by rw [e]
 cases go <;> simp_all
theorem pk_good {p:Pg} {go:Bool} (h:(!(decide (p.flags % 2 ≠ 0) == go)) = false):¬ (p.flags % 2 ≠ 0) ≠ (go = true) := by
 intro e
 apply e
 rw [eq_iff_iff]
 cases go <;> simp_all
theorem pks_some {F:Option PkS} {ser0:Nat} {prev:Option Nat} {p:Pg} {r:List Pg} {s:PkS} (h:F = pks ser0 prev (p :: r) s) (hb:¬ badPg ser0 prev p s.go):F = if p.parts = [] ∧ s.go = true then none else pks ser0 (some p.seq) r (prt p.gran p.more p.parts s) := by
 rw [h,pks,if_neg hb]
theorem pks_none {F:Option PkS} {ser0:Nat} {prev:Option Nat} {p:Pg} {r:List Pg} {s:PkS} (h:F = pks ser0 prev (p :: r) s) (hb:badPg ser0 prev p s.go):F = none := by
 rw [h,pks,if_pos hb]
theorem packetsOfW (w0:World) (ps:List Pg) {o n cc:Nat} (hn:ps.length = o + n) (h0:0 < n) (hw:wts ps ≤ 1099511627776) (hf:∀ p ∈ ps,p.fits) :
   CallsA Tryz.prog w0 27 [.c (.sli 0 6 o n cc)] [pgsB 1 ps,famB ps] fun r H => match packsP (ps.drop o) with
     | none => r = .t [.c (.val (.slice none 0 0)),.c (.val (.slice none 0 0)),.c (.val (.bool false)),.c (.val (.int .i64 ((2:Nat):Int)))] ∧ H = [pgsB 1 ps,famB ps]
     | some s => r = .t [.c (pkV 2 s.l),.c (pkV 3 s.l),.c (.val (.bool (!s.go))),.c (.val (.int .i64 ((1:Nat):Int)))] ∧ H = pgsB 1 ps :: famB ps :: pkH s.l := by
 obtain ⟨l,hl⟩:∃ l,l = ps.drop o := ⟨_,rfl⟩
 obtain ⟨F,hF⟩:∃ F,F = packsP l := ⟨_,rfl⟩
 rw [← hl,← hF]
 have hll:l.length = n := by rw [hl,List.length_drop]; omega
 obtain ⟨p0,hp0⟩:∃ p0,ps[o]? = some p0 := ⟨_,List.getElem?_eq_getElem (by omega)⟩
 obtain ⟨f0,hrow0,_⟩ := rowsP_get ps 0 o p0 hp0
 have hl0:l = p0 :: l.drop 1 := by
   rw [hl,List.drop_drop]
   exact List.drop_eq_getElem?_toList_append.trans (by rw [hp0]; rfl)
 obtain ⟨ser0,hser⟩:∃ ser0,ser0 = p0.ser := ⟨_,rfl⟩
 have hF0:F = pks ser0 none l ⟨eS,false,[]⟩ := by
   rw [hF,hser]
   unfold packsP
   rw [hl0]
 have hwl:wts l ≤ 1099511627776 := by
   have := wts_add (ps.take o) (ps.drop o)
   rw [List.take_append_drop] at this
   rw [hl]
   omega
 have hnb:n ≤ 1099511627776 := by
   have:∀ (z:List Pg),z.length ≤ wts z := by
     intro z
     induction z with
     | nil => exact Nat.zero_le _
     | cons y r ih =>
       show r.length + 1 ≤ y.wt + wts r
       unfold Pg.wt
       omega
   have := this l
   omega
 clear hF
 refine callsA_of_ev c27_ ?_
 conv => whnf
 refine Or.inr ⟨{s:PkS // F = some s},fun ⟨⟨_,go,l⟩,_⟩ => ⟨[(2,.o (.c (pkV 2 l))),(3,.o (.c (pkV 3 l))),(7,.o (.c (.kb go)))],pgsB 1 ps :: famB ps :: pkH l⟩,?_,fun ⟨s,hs⟩ => ?_⟩
 · conv => whnf
   refine ⟨{x:Nat × PkS // x.1 ≤ n ∧ F = pks ser0 (pvS l x.1) (l.drop x.1) x.2 ∧ x.2.op.size + x.2.l.length + wts (l.drop x.1) ≤ 1099511627776},fun ⟨⟨j,⟨op,go,l⟩⟩,_⟩ => pkSt ps o n cc j op go l,fun x => n - x.1.1,⟨⟨(0,⟨eS,false,[]⟩),Nat.zero_le _,hF0,by show 0 + 0 + wts l ≤ _; omega⟩,[0,1],⟨rfl,⟨rfl,rfl,rfl,rfl,trivial⟩,rfl⟩,rfl,rfl,rfl,rfl,rfl,rfl,rfl,rfl,trivial⟩,fun ⟨⟨j,s⟩,h⟩ => ?_⟩
   have hj := h.1
   have hF := h.2.1
   have hb := h.2.2
   simp only at hj hF hb
   conv => whnf
   refine ⟨fun g => ?_,fun g => ?_⟩
   · have g:j < n := lt_t g
     obtain ⟨p,hp⟩:∃ p,ps[o + j]? = some p := ⟨_,List.getElem?_eq_getElem (by omega)⟩
     obtain ⟨f,hrow,hfam⟩ := rowsP_get ps 0 (o + j) p hp
     have hfit := hf p (List.mem_of_getElem? hp)
     have hpl:l[j]? = some p := by rw [hl,List.getElem?_drop,hp]
     have hlj:l.drop j = p :: l.drop (j + 1) := List.drop_eq_getElem?_toList_append.trans (by rw [hpl]; rfl)
     rw [hlj] at hF hb
     have hpv:pvS l (j + 1) = some p.seq := by
       show (l[j]?).map Pg.seq = _
       rw [hpl]
       rfl
     conv => whnf
     obtain ⟨wr,hwr⟩:∃ wr,wr = wts (l.drop (j + 1)) := ⟨_,rfl⟩
     rw [show wts (p :: l.drop (j + 1)) = p.wt + wts (l.drop (j + 1)) from rfl,← hwr] at hb
     refine Or.inr ⟨{s':PkS // F = pks ser0 (some p.seq) (l.drop (j + 1)) s' ∧ s'.op.size + s'.l.length + wr ≤ 1099511627776},fun ⟨⟨op,go,l⟩,_⟩ => pkSt ps o n cc j op go l,?_,fun ⟨s',hs'⟩ => ?_⟩
     · obtain ⟨a,q,c,d,parts,m⟩ := p
       obtain ⟨op,go,pl⟩ := s
       simp only [Pg.wt,Pg.fits,Nat.sub_zero] at hb hfit hfam
       conv => whnf
       refine ⟨⟨Int.natCast_nonneg j,by omega⟩,?_⟩
       conv => whnf
       refine ⟨(⟨a,q,c,d,parts,m⟩,f),hrow,?_⟩
       cases parts with
       | nil =>
         cases pl with
         | nil =>
           conv => whnf
           refine Or.inr ⟨PLift (¬ badPg ser0 (pvS l j) ⟨a,q,c,d,[],m⟩ go),fun _ => pkOut ps ⟨a,q,c,d,[],m⟩ f o n cc j op go [],?_,fun ⟨hgood⟩ => ?_⟩
           · conv => whnf
             refine ⟨⟨by omega,by omega⟩,?_⟩
             conv => whnf
             refine ⟨(p0,f0),?_⟩
             conv => whnf
             refine ⟨hrow0,?_⟩
             conv => whnf
             refine ⟨fun g1 => ?_,fun g1 => ?_⟩
             · have k1:a ≠ ser0 := by
                 rw [hser]
                 exact of_bne g1
               have hF' := pks_none hF (.inl k1)
               subst hF'
               conv => whnf
               exact Or.inr ⟨[0,1],.t [.c (.val (.slice none 0 0)),.c (.val (.slice none 0 0)),.c (.val (.bool false)),.c (.val (.int .i64 ((2:Nat):Int)))],[pgsB 1 ps,famB ps],⟨rfl,⟨rfl,rfl,rfl,rfl,trivial⟩,rfl⟩,rfl,rfl,rfl⟩
             have k1:a = ser0 := by
               rw [hser]
               exact of_bne_f g1
             conv => whnf
             refine ⟨fun g2 => ?_,fun g2 => ?_⟩
             · have g2:0 < j := gt_t g2
               obtain ⟨j',rfl⟩:∃ j',j = j' + 1 := ⟨j - 1,by omega⟩
               obtain ⟨pp,hpp⟩:∃ pp,ps[o + j']? = some pp := ⟨_,List.getElem?_eq_getElem (by omega)⟩
               obtain ⟨fp,hrowp,_⟩ := rowsP_get ps 0 (o + j') pp hpp
               have hpf := hf pp (List.mem_of_getElem? hpp)
               have hpv:pvS l (j' + 1) = some pp.seq := by
                 show (l[j']?).map Pg.seq = _
                 rw [hl,List.getElem?_drop,hpp]
                 rfl
               conv => whnf
               rw [nsub (a := j' + 1) (b := 1) (by omega),nwrapi (n := j' + 1 - 1) (by omega)]
               refine ⟨⟨by omega,by omega⟩,?_⟩
               conv => whnf
               refine ⟨(pp,fp),?_⟩
               conv => whnf
               refine ⟨hrowp,?_⟩
               conv => whnf
               have hsq:IntKind.u32.wrap (((pp.seq:Nat):Int) + ((1:Nat):Int)) = (((pp.seq + 1) % 4294967296:Nat):Int) := by
                 rw [IntKind.wrap_u32]
                 omega
               rw [hsq]
               refine ⟨fun g3 => ?_,fun g3 => ?_⟩
               · have g3 := of_bne g3
                 have hF' := pks_none hF (.inr (.inl ⟨_,hpv,g3⟩))
                 subst hF'
                 conv => whnf
                 exact Or.inr ⟨[0,1],.t [.c (.val (.slice none 0 0)),.c (.val (.slice none 0 0)),.c (.val (.bool false)),.c (.val (.int .i64 ((2:Nat):Int)))],[pgsB 1 ps,famB ps],⟨rfl,⟨rfl,rfl,rfl,rfl,trivial⟩,rfl⟩,rfl,rfl,rfl⟩
               have g3 := of_bne_f g3
               conv => whnf
               rw [flag1 hfit.2.2.2.1 hfit.2.2.2.2]
               refine ⟨fun g4 => ?_,fun g4 => ?_⟩
               · have g4 := pk_bad (p := ⟨a,q,c,d,[],m⟩) g4
                 have hF' := pks_none hF (.inr (.inr g4))
                 subst hF'
                 conv => whnf
                 exact Or.inr ⟨[0,1],.t [.c (.val (.slice none 0 0)),.c (.val (.slice none 0 0)),.c (.val (.bool false)),.c (.val (.int .i64 ((2:Nat):Int)))],[pgsB 1 ps,famB ps],⟨rfl,⟨rfl,rfl,rfl,rfl,trivial⟩,rfl⟩,rfl,rfl,rfl⟩
               have g4 := pk_good (p := ⟨a,q,c,d,[],m⟩) g4
               conv => whnf
               refine ⟨⟨?_⟩,⟨[0,1,2],⟨rfl,⟨rfl,rfl,rfl,rfl,rfl,rfl,trivial⟩,rfl⟩,rfl,rfl,rfl,rfl,rfl,rfl,rfl,rfl,rfl,trivial⟩⟩
               rintro (h | ⟨q',h,h'⟩ | h)
               · exact h k1
               · rw [hpv] at h
                 cases h
                 exact h' g3
               · exact g4 h
             · have g2:j = 0 := by
                 have := gt_f (b := 0) g2
                 omega
               subst g2
               conv => whnf
               rw [flag1 hfit.2.2.2.1 hfit.2.2.2.2]
               refine ⟨fun g4 => ?_,fun g4 => ?_⟩
               · have g4 := pk_bad (p := ⟨a,q,c,d,[],m⟩) g4
                 have hF' := pks_none hF (.inr (.inr g4))
                 subst hF'
                 conv => whnf
                 exact Or.inr ⟨[0,1],.t [.c (.val (.slice none 0 0)),.c (.val (.slice none 0 0)),.c (.val (.bool false)),.c (.val (.int .i64 ((2:Nat):Int)))],[pgsB 1 ps,famB ps],⟨rfl,⟨rfl,rfl,rfl,rfl,trivial⟩,rfl⟩,rfl,rfl,rfl⟩
               have g4 := pk_good (p := ⟨a,q,c,d,[],m⟩) g4
               conv => whnf
               refine ⟨⟨?_⟩,⟨[0,1,2],⟨rfl,⟨rfl,rfl,rfl,rfl,rfl,rfl,trivial⟩,rfl⟩,rfl,rfl,rfl,rfl,rfl,rfl,rfl,rfl,rfl,trivial⟩⟩
               rintro (h | ⟨q',h,h'⟩ | h)
               · exact h k1
               · cases h
               · exact g4 h
           have hF := pks_some hF hgood
           rw [prt] at hF
           conv => whnf
           refine Or.inr ⟨Unit,fun _ => pkOut ps ⟨a,q,c,d,[],m⟩ f o n cc j op go [],?_,fun _ => ?_⟩
           · conv => whnf
             refine ⟨Unit,fun _ => ⟨(51,.o (.c (.val (.slice none 0 0)))) :: (52,.o (.c (.val (.int .i64 ((0:Nat):Int))))) :: (53,.o (.c (.val (.int .i64 ((0:Nat):Int))))) :: (pkOut ps ⟨a,q,c,d,[],m⟩ f o n cc j op go []).env,(pkOut ps ⟨a,q,c,d,[],m⟩ f o n cc j op go []).H⟩,fun _ => 0,⟨(),[0,1,2],⟨rfl,⟨rfl,rfl,rfl,rfl,rfl,rfl,trivial⟩,rfl⟩,rfl,rfl,rfl,rfl,rfl,rfl,rfl,rfl,rfl,rfl,rfl,rfl,trivial⟩,fun _ => ?_⟩
             conv => whnf
             refine ⟨fun g => zF g,fun _ => ?_⟩
             conv => whnf
             exact ⟨(),[0,1,2],⟨rfl,⟨rfl,rfl,rfl,rfl,rfl,rfl,trivial⟩,rfl⟩,rfl,rfl,rfl,rfl,rfl,rfl,rfl,rfl,rfl,trivial⟩
           cases go with
           | true =>
             rw [if_pos ⟨rfl,rfl⟩] at hF
             conv => whnf
             refine ⟨fun _ => ?_,fun g => zT g⟩
             conv => whnf
             subst hF
             conv => whnf
             exact Or.inr ⟨[0,1],.t [.c (.val (.slice none 0 0)),.c (.val (.slice none 0 0)),.c (.val (.bool false)),.c (.val (.int .i64 ((2:Nat):Int)))],[pgsB 1 ps,famB ps],⟨rfl,⟨rfl,rfl,rfl,rfl,trivial⟩,rfl⟩,rfl,rfl,rfl⟩
           | false =>
             rw [if_neg (fun h => Bool.noConfusion h.2)] at hF
             conv => whnf
             refine ⟨fun _ => ?_,fun g => zT g⟩
             conv => whnf
             exact ⟨⟨⟨op,false,[]⟩,hF,by show op.size + ([]:List (ByteArray × Nat)).length + wr ≤ _; omega⟩,[0,1],⟨rfl,⟨rfl,rfl,rfl,rfl,trivial⟩,rfl⟩,rfl,rfl,rfl,rfl,rfl,rfl,rfl,rfl,trivial⟩
         | cons y ys =>
           conv => whnf
           refine Or.inr ⟨PLift (¬ badPg ser0 (pvS l j) ⟨a,q,c,d,[],m⟩ go),fun _ => pkOut ps ⟨a,q,c,d,[],m⟩ f o n cc j op go (y :: ys),?_,fun ⟨hgood⟩ => ?_⟩
           · conv => whnf
             refine ⟨⟨by omega,by omega⟩,?_⟩
             conv => whnf
             refine ⟨(p0,f0),?_⟩
             conv => whnf
             refine ⟨hrow0,?_⟩
             conv => whnf
             refine ⟨fun g1 => ?_,fun g1 => ?_⟩
             · have k1:a ≠ ser0 := by
                 rw [hser]
                 exact of_bne g1
               have hF' := pks_none hF (.inl k1)
               subst hF'
               conv => whnf
               exact Or.inr ⟨[0,1],.t [.c (.val (.slice none 0 0)),.c (.val (.slice none 0 0)),.c (.val (.bool false)),.c (.val (.int .i64 ((2:Nat):Int)))],[pgsB 1 ps,famB ps],⟨rfl,⟨rfl,rfl,rfl,rfl,trivial⟩,rfl⟩,rfl,rfl,rfl⟩
             have k1:a = ser0 := by
               rw [hser]
               exact of_bne_f g1
             conv => whnf
             refine ⟨fun g2 => ?_,fun g2 => ?_⟩
             · have g2:0 < j := gt_t g2
               obtain ⟨j',rfl⟩:∃ j',j = j' + 1 := ⟨j - 1,by omega⟩
               obtain ⟨pp,hpp⟩:∃ pp,ps[o + j']? = some pp := ⟨_,List.getElem?_eq_getElem (by omega)⟩
               obtain ⟨fp,hrowp,_⟩ := rowsP_get ps 0 (o + j') pp hpp
               have hpf := hf pp (List.mem_of_getElem? hpp)
               have hpv:pvS l (j' + 1) = some pp.seq := by
                 show (l[j']?).map Pg.seq = _
                 rw [hl,List.getElem?_drop,hpp]
                 rfl
               conv => whnf
               rw [nsub (a := j' + 1) (b := 1) (by omega),nwrapi (n := j' + 1 - 1) (by omega)]
               refine ⟨⟨by omega,by omega⟩,?_⟩
               conv => whnf
               refine ⟨(pp,fp),?_⟩
               conv => whnf
               refine ⟨hrowp,?_⟩
               conv => whnf
               have hsq:IntKind.u32.wrap (((pp.seq:Nat):Int) + ((1:Nat):Int)) = (((pp.seq + 1) % 4294967296:Nat):Int) := by
                 rw [IntKind.wrap_u32]
                 omega
               rw [hsq]
               refine ⟨fun g3 => ?_,fun g3 => ?_⟩
               · have g3 := of_bne g3
                 have hF' := pks_none hF (.inr (.inl ⟨_,hpv,g3⟩))
                 subst hF'
                 conv => whnf
                 exact Or.inr ⟨[0,1],.t [.c (.val (.slice none 0 0)),.c (.val (.slice none 0 0)),.c (.val (.bool false)),.c (.val (.int .i64 ((2:Nat):Int)))],[pgsB 1 ps,famB ps],⟨rfl,⟨rfl,rfl,rfl,rfl,trivial⟩,rfl⟩,rfl,rfl,rfl⟩
               have g3 := of_bne_f g3
               conv => whnf
               rw [flag1 hfit.2.2.2.1 hfit.2.2.2.2]
               refine ⟨fun g4 => ?_,fun g4 => ?_⟩
               · have g4 := pk_bad (p := ⟨a,q,c,d,[],m⟩) g4
                 have hF' := pks_none hF (.inr (.inr g4))
                 subst hF'
                 conv => whnf
                 exact Or.inr ⟨[0,1],.t [.c (.val (.slice none 0 0)),.c (.val (.slice none 0 0)),.c (.val (.bool false)),.c (.val (.int .i64 ((2:Nat):Int)))],[pgsB 1 ps,famB ps],⟨rfl,⟨rfl,rfl,rfl,rfl,trivial⟩,rfl⟩,rfl,rfl,rfl⟩
               have g4 := pk_good (p := ⟨a,q,c,d,[],m⟩) g4
               conv => whnf
               refine ⟨⟨?_⟩,⟨[0,1,4,2,3],⟨rfl,⟨rfl,rfl,rfl,rfl,rfl,rfl,rfl,rfl,rfl,rfl,trivial⟩,rfl⟩,rfl,rfl,rfl,rfl,rfl,rfl,rfl,rfl,rfl,trivial⟩⟩
               rintro (h | ⟨q',h,h'⟩ | h)
               · exact h k1
               · rw [hpv] at h
                 cases h
                 exact h' g3
               · exact g4 h
             · have g2:j = 0 := by
                 have := gt_f (b := 0) g2
                 omega
               subst g2
               conv => whnf
               rw [flag1 hfit.2.2.2.1 hfit.2.2.2.2]
               refine ⟨fun g4 => ?_,fun g4 => ?_⟩
               · have g4 := pk_bad (p := ⟨a,q,c,d,[],m⟩) g4
                 have hF' := pks_none hF (.inr (.inr g4))
                 subst hF'
                 conv => whnf
                 exact Or.inr ⟨[0,1],.t [.c (.val (.slice none 0 0)),.c (.val (.slice none 0 0)),.c (.val (.bool false)),.c (.val (.int .i64 ((2:Nat):Int)))],[pgsB 1 ps,famB ps],⟨rfl,⟨rfl,rfl,rfl,rfl,trivial⟩,rfl⟩,rfl,rfl,rfl⟩
               have g4 := pk_good (p := ⟨a,q,c,d,[],m⟩) g4
               conv => whnf
               refine ⟨⟨?_⟩,⟨[0,1,4,2,3],⟨rfl,⟨rfl,rfl,rfl,rfl,rfl,rfl,rfl,rfl,rfl,rfl,trivial⟩,rfl⟩,rfl,rfl,rfl,rfl,rfl,rfl,rfl,rfl,rfl,trivial⟩⟩
               rintro (h | ⟨q',h,h'⟩ | h)
               · exact h k1
               · cases h
               · exact g4 h
           have hF := pks_some hF hgood
           rw [prt] at hF
           conv => whnf
           refine Or.inr ⟨Unit,fun _ => pkOut ps ⟨a,q,c,d,[],m⟩ f o n cc j op go (y :: ys),?_,fun _ => ?_⟩
           · conv => whnf
             refine ⟨Unit,fun _ => ⟨(51,.o (.c (.val (.slice none 0 0)))) :: (52,.o (.c (.val (.int .i64 ((0:Nat):Int))))) :: (53,.o (.c (.val (.int .i64 ((0:Nat):Int))))) :: (pkOut ps ⟨a,q,c,d,[],m⟩ f o n cc j op go (y :: ys)).env,(pkOut ps ⟨a,q,c,d,[],m⟩ f o n cc j op go (y :: ys)).H⟩,fun _ => 0,⟨(),[0,1,2,3,4],⟨rfl,⟨rfl,rfl,rfl,rfl,rfl,rfl,rfl,rfl,rfl,rfl,trivial⟩,rfl⟩,rfl,rfl,rfl,rfl,rfl,rfl,rfl,rfl,rfl,rfl,rfl,rfl,trivial⟩,fun _ => ?_⟩
             conv => whnf
             refine ⟨fun g => zF g,fun _ => ?_⟩
             conv => whnf
             exact ⟨(),[0,1,2,3,4],⟨rfl,⟨rfl,rfl,rfl,rfl,rfl,rfl,rfl,rfl,rfl,rfl,trivial⟩,rfl⟩,rfl,rfl,rfl,rfl,rfl,rfl,rfl,rfl,rfl,trivial⟩
           cases go with
           | true =>
             rw [if_pos ⟨rfl,rfl⟩] at hF
             conv => whnf
             refine ⟨fun _ => ?_,fun g => zT g⟩
             conv => whnf
             subst hF
             conv => whnf
             exact Or.inr ⟨[0,1],.t [.c (.val (.slice none 0 0)),.c (.val (.slice none 0 0)),.c (.val (.bool false)),.c (.val (.int .i64 ((2:Nat):Int)))],[pgsB 1 ps,famB ps],⟨rfl,⟨rfl,rfl,rfl,rfl,trivial⟩,rfl⟩,rfl,rfl,rfl⟩
           | false =>
             rw [if_neg (fun h => Bool.noConfusion h.2)] at hF
             conv => whnf
             refine ⟨fun _ => ?_,fun g => zT g⟩
             conv => whnf
             exact ⟨⟨⟨op,false,(y :: ys)⟩,hF,by show op.size + ((y :: ys):List (ByteArray × Nat)).length + wr ≤ _; omega⟩,[0,1,3,4],⟨rfl,⟨rfl,rfl,rfl,rfl,rfl,rfl,rfl,rfl,trivial⟩,rfl⟩,rfl,rfl,rfl,rfl,rfl,rfl,rfl,rfl,trivial⟩
       | cons x0 xr =>
         have hfam := (hfam (fun h => List.noConfusion rfl (heq_of_eq h))).2
         have hxl:(x0 :: xr).length = xr.length + 1 := rfl
         cases pl with
         | nil =>
           conv => whnf
           refine Or.inr ⟨PLift (¬ badPg ser0 (pvS l j) ⟨a,q,c,d,(x0 :: xr),m⟩ go),fun _ => pkOut ps ⟨a,q,c,d,(x0 :: xr),m⟩ f o n cc j op go [],?_,fun ⟨hgood⟩ => ?_⟩
           · conv => whnf
             refine ⟨⟨by omega,by omega⟩,?_⟩
             conv => whnf
             refine ⟨(p0,f0),?_⟩
             conv => whnf
             refine ⟨hrow0,?_⟩
             conv => whnf
             refine ⟨fun g1 => ?_,fun g1 => ?_⟩
             · have k1:a ≠ ser0 := by
                 rw [hser]
                 exact of_bne g1
               have hF' := pks_none hF (.inl k1)
               subst hF'
               conv => whnf
               exact Or.inr ⟨[0,1],.t [.c (.val (.slice none 0 0)),.c (.val (.slice none 0 0)),.c (.val (.bool false)),.c (.val (.int .i64 ((2:Nat):Int)))],[pgsB 1 ps,famB ps],⟨rfl,⟨rfl,rfl,rfl,rfl,trivial⟩,rfl⟩,rfl,rfl,rfl⟩
             have k1:a = ser0 := by
               rw [hser]
               exact of_bne_f g1
             conv => whnf
             refine ⟨fun g2 => ?_,fun g2 => ?_⟩
             · have g2:0 < j := gt_t g2
               obtain ⟨j',rfl⟩:∃ j',j = j' + 1 := ⟨j - 1,by omega⟩
               obtain ⟨pp,hpp⟩:∃ pp,ps[o + j']? = some pp := ⟨_,List.getElem?_eq_getElem (by omega)⟩
               obtain ⟨fp,hrowp,_⟩ := rowsP_get ps 0 (o + j') pp hpp
               have hpf := hf pp (List.mem_of_getElem? hpp)
               have hpv:pvS l (j' + 1) = some pp.seq := by
                 show (l[j']?).map Pg.seq = _
                 rw [hl,List.getElem?_drop,hpp]
                 rfl
               conv => whnf
               rw [nsub (a := j' + 1) (b := 1) (by omega),nwrapi (n := j' + 1 - 1) (by omega)]
               refine ⟨⟨by omega,by omega⟩,?_⟩
               conv => whnf
               refine ⟨(pp,fp),?_⟩
               conv => whnf
               refine ⟨hrowp,?_⟩
               conv => whnf
               have hsq:IntKind.u32.wrap (((pp.seq:Nat):Int) + ((1:Nat):Int)) = (((pp.seq + 1) % 4294967296:Nat):Int) := by
                 rw [IntKind.wrap_u32]
                 omega
               rw [hsq]
               refine ⟨fun g3 => ?_,fun g3 => ?_⟩
               · have g3 := of_bne g3
                 have hF' := pks_none hF (.inr (.inl ⟨_,hpv,g3⟩))
                 subst hF'
                 conv => whnf
                 exact Or.inr ⟨[0,1],.t [.c (.val (.slice none 0 0)),.c (.val (.slice none 0 0)),.c (.val (.bool false)),.c (.val (.int .i64 ((2:Nat):Int)))],[pgsB 1 ps,famB ps],⟨rfl,⟨rfl,rfl,rfl,rfl,trivial⟩,rfl⟩,rfl,rfl,rfl⟩
               have g3 := of_bne_f g3
               conv => whnf
               rw [flag1 hfit.2.2.2.1 hfit.2.2.2.2]
               refine ⟨fun g4 => ?_,fun g4 => ?_⟩
               · have g4 := pk_bad (p := ⟨a,q,c,d,(x0 :: xr),m⟩) g4
                 have hF' := pks_none hF (.inr (.inr g4))
                 subst hF'
                 conv => whnf
                 exact Or.inr ⟨[0,1],.t [.c (.val (.slice none 0 0)),.c (.val (.slice none 0 0)),.c (.val (.bool false)),.c (.val (.int .i64 ((2:Nat):Int)))],[pgsB 1 ps,famB ps],⟨rfl,⟨rfl,rfl,rfl,rfl,trivial⟩,rfl⟩,rfl,rfl,rfl⟩
               have g4 := pk_good (p := ⟨a,q,c,d,(x0 :: xr),m⟩) g4
               conv => whnf
               refine ⟨⟨?_⟩,⟨[0,1,2],⟨rfl,⟨rfl,rfl,rfl,rfl,rfl,rfl,trivial⟩,rfl⟩,rfl,rfl,rfl,rfl,rfl,rfl,rfl,rfl,rfl,trivial⟩⟩
               rintro (h | ⟨q',h,h'⟩ | h)
               · exact h k1
               · rw [hpv] at h
                 cases h
                 exact h' g3
               · exact g4 h
             · have g2:j = 0 := by
                 have := gt_f (b := 0) g2
                 omega
               subst g2
               conv => whnf
               rw [flag1 hfit.2.2.2.1 hfit.2.2.2.2]
               refine ⟨fun g4 => ?_,fun g4 => ?_⟩
               · have g4 := pk_bad (p := ⟨a,q,c,d,(x0 :: xr),m⟩) g4
                 have hF' := pks_none hF (.inr (.inr g4))
                 subst hF'
                 conv => whnf
                 exact Or.inr ⟨[0,1],.t [.c (.val (.slice none 0 0)),.c (.val (.slice none 0 0)),.c (.val (.bool false)),.c (.val (.int .i64 ((2:Nat):Int)))],[pgsB 1 ps,famB ps],⟨rfl,⟨rfl,rfl,rfl,rfl,trivial⟩,rfl⟩,rfl,rfl,rfl⟩
               have g4 := pk_good (p := ⟨a,q,c,d,(x0 :: xr),m⟩) g4
               conv => whnf
               refine ⟨⟨?_⟩,⟨[0,1,2],⟨rfl,⟨rfl,rfl,rfl,rfl,rfl,rfl,trivial⟩,rfl⟩,rfl,rfl,rfl,rfl,rfl,rfl,rfl,rfl,rfl,trivial⟩⟩
               rintro (h | ⟨q',h,h'⟩ | h)
               · exact h k1
               · cases h
               · exact g4 h
           have hF := pks_some hF hgood
           rw [if_neg (fun h => List.noConfusion rfl (heq_of_eq h.1))] at hF
           conv => whnf
           refine Or.inr ⟨{s':PkS // F = pks ser0 (some q) (l.drop (j + 1)) s' ∧ s'.op.size + s'.l.length + wr ≤ 1099511627776},fun ⟨⟨op,go,l⟩,_⟩ => pkOut ps ⟨a,q,c,d,x0 :: xr,m⟩ f o n cc j op go l,?_,fun ⟨s',hs'⟩ => ?_⟩
           · conv => whnf
             refine ⟨{x:Nat × PkS // x.1 ≤ (x0 :: xr).length ∧ F = pks ser0 (some q) (l.drop (j + 1)) (prt c m ((x0 :: xr).drop x.1) x.2) ∧ x.2.op.size + x.2.l.length + ((x0 :: xr).drop x.1).length + psz ((x0 :: xr).drop x.1) + wr ≤ 1099511627776},fun ⟨⟨k,⟨op,go,l⟩⟩,_⟩ => pkIn ps ⟨a,q,c,d,x0 :: xr,m⟩ f (xr.length + 1) o n cc j k op go l,fun x => (x0 :: xr).length - x.1.1,⟨⟨(0,⟨op,go,[]⟩),Nat.zero_le _,hF,by show op.size + ([]:List (ByteArray × Nat)).length + (x0 :: xr).length + psz (x0 :: xr) + wr ≤ _; omega⟩,[0,1,2],⟨rfl,⟨rfl,rfl,rfl,rfl,rfl,rfl,trivial⟩,rfl⟩,rfl,rfl,rfl,rfl,rfl,rfl,rfl,rfl,rfl,rfl,rfl,rfl,trivial⟩,fun ⟨⟨k,s⟩,h⟩ => ?_⟩
             have hk := h.1
             have hF := h.2.1
             have hb := h.2.2
             simp only at hk hF hb
             obtain ⟨op',go',pl'⟩ := s
             simp only at hF hb
             conv => whnf
             refine ⟨fun g => ?_,fun g => ?_⟩
             · have g:k < xr.length + 1 := lt_t g
               obtain ⟨x,hx⟩:∃ x,(x0 :: xr)[k]? = some x := ⟨_,List.getElem?_eq_getElem g⟩
               have hdk:(x0 :: xr).drop k = x :: (x0 :: xr).drop (k + 1) := List.drop_eq_getElem?_toList_append.trans (by rw [hx]; rfl)
               have hxl:(x0 :: xr).length = xr.length + 1 := rfl
               rw [hdk] at hF hb
               rw [prt] at hF
               rw [List.length_cons,psz] at hb
               cases pl' with
               | nil =>
                 conv => whnf
                 refine Or.inl ?_
                 conv => whnf
                 refine ⟨⟨by omega,by omega⟩,?_⟩
                 conv => whnf
                 refine ⟨x0 :: xr,x,hfam,hx,?_⟩
                 conv => whnf
                 refine ⟨by omega,?_⟩
                 conv => whnf
                 refine Or.inl ?_
                 conv => whnf
                 have hw1:IntKind.i64.wrap ((((Pg.mk a q c d (x0 :: xr) m).parts.length:Nat):Int) - ((1:Nat):Int)) = ((xr.length:Nat):Int) := by
                   show IntKind.i64.wrap (((xr.length + 1:Nat):Int) - ((1:Nat):Int)) = _
                   rw [IntKind.wrap_i64]
                   omega
                 rw [hw1]
                 refine ⟨fun g1 => ?_,fun g1 => ?_⟩
                 · have g1:k = xr.length := by
                     have := beq_t g1
                     omega
                   have hnil:(x0 :: xr).drop (k + 1) = [] := List.drop_of_length_le (by rw [g1]; exact Nat.le_refl _)
                   cases m with
                   | true =>
                     rw [if_pos ⟨hnil,rfl⟩] at hF
                     conv => whnf
                     refine ⟨fun _ => ?_,fun g => zT g⟩
                     conv => whnf
                     exact ⟨⟨⟨op' ++ x,true,[]⟩,hF,by show (op' ++ x).size + ([]:List (ByteArray × Nat)).length + wr ≤ _; rw [ByteArray.size_append]; omega⟩,[0,1,2],⟨rfl,⟨rfl,rfl,rfl,rfl,rfl,rfl,trivial⟩,rfl⟩,rfl,rfl,rfl,rfl,rfl,rfl,rfl,rfl,rfl,trivial⟩
                   | false =>
                     rw [if_neg (fun h => Bool.noConfusion h.2)] at hF
                     conv => whnf
                     refine ⟨fun g => zF g,fun _ => ?_⟩
                     conv => whnf
                     conv => whnf
                     refine ⟨by omega,ByteArray,encStr,[],[op' ++ x],fun _ => rfl,⟨rfl,rfl,rfl⟩,by simp only [List.length_cons,List.length_nil]; omega,by simp only [List.length_cons,List.length_nil]; omega,?_⟩
                     conv => whnf
                     refine ⟨by omega,Int,encI .u64,[],[((c:Nat):Int)],fun _ => rfl,⟨rfl,rfl,rfl⟩,by simp only [List.length_cons,List.length_nil]; omega,by simp only [List.length_cons,List.length_nil]; omega,?_⟩
                     conv => whnf
                     exact ⟨⟨(k + 1,⟨eS,false,[(op' ++ x,c)]⟩),by show k + 1 ≤ (x0 :: xr).length; omega,hF,by show 0 + 1 + ((x0 :: xr).drop (k + 1)).length + psz ((x0 :: xr).drop (k + 1)) + wr ≤ _; simp only [List.length_nil] at hb; omega⟩,⟨[0,1,2,4,6],⟨rfl,⟨rfl,rfl,rfl,rfl,rfl,rfl,rfl,rfl,rfl,rfl,trivial⟩,rfl⟩,rfl,rfl,rfl,eq_i64 (by rw [nadd,nwrapi (by omega)]),rfl,rfl,rfl,rfl,rfl,rfl,rfl,rfl,trivial⟩,by show (x0 :: xr).length - (k + 1) < (x0 :: xr).length - k; omega⟩
                 · have g1 := beq_f g1
                   have hne:(x0 :: xr).drop (k + 1) ≠ [] := by
                     intro h
                     have := congrArg List.length h
                     rw [List.length_drop,List.length_nil,List.length_cons] at this
                     omega
                   rw [if_neg (fun h => hne h.1)] at hF
                   conv => whnf
                   conv => whnf
                   refine ⟨by omega,ByteArray,encStr,[],[op' ++ x],fun _ => rfl,⟨rfl,rfl,rfl⟩,by simp only [List.length_cons,List.length_nil]; omega,by simp only [List.length_cons,List.length_nil]; omega,?_⟩
                   conv => whnf
                   refine ⟨by omega,Int,encI .u64,[],[((c:Nat):Int)],fun _ => rfl,⟨rfl,rfl,rfl⟩,by simp only [List.length_cons,List.length_nil]; omega,by simp only [List.length_cons,List.length_nil]; omega,?_⟩
                   conv => whnf
                   exact ⟨⟨(k + 1,⟨eS,false,[(op' ++ x,c)]⟩),by show k + 1 ≤ (x0 :: xr).length; omega,hF,by show 0 + 1 + ((x0 :: xr).drop (k + 1)).length + psz ((x0 :: xr).drop (k + 1)) + wr ≤ _; simp only [List.length_nil] at hb; omega⟩,⟨[0,1,2,4,6],⟨rfl,⟨rfl,rfl,rfl,rfl,rfl,rfl,rfl,rfl,rfl,rfl,trivial⟩,rfl⟩,rfl,rfl,rfl,eq_i64 (by rw [nadd,nwrapi (by omega)]),rfl,rfl,rfl,rfl,rfl,rfl,rfl,rfl,trivial⟩,by show (x0 :: xr).length - (k + 1) < (x0 :: xr).length - k; omega⟩
               | cons y' ys' =>
                 conv => whnf
                 refine Or.inl ?_
                 conv => whnf
                 refine ⟨⟨by omega,by omega⟩,?_⟩
                 conv => whnf
                 refine ⟨x0 :: xr,x,hfam,hx,?_⟩
                 conv => whnf
                 refine ⟨by omega,?_⟩
                 conv => whnf
                 refine Or.inl ?_
                 conv => whnf
                 have hw1:IntKind.i64.wrap ((((Pg.mk a q c d (x0 :: xr) m).parts.length:Nat):Int) - ((1:Nat):Int)) = ((xr.length:Nat):Int) := by
                   show IntKind.i64.wrap (((xr.length + 1:Nat):Int) - ((1:Nat):Int)) = _
                   rw [IntKind.wrap_i64]
                   omega
                 rw [hw1]
                 refine ⟨fun g1 => ?_,fun g1 => ?_⟩
                 · have g1:k = xr.length := by
                     have := beq_t g1
                     omega
                   have hnil:(x0 :: xr).drop (k + 1) = [] := List.drop_of_length_le (by rw [g1]; exact Nat.le_refl _)
                   cases m with
                   | true =>
                     rw [if_pos ⟨hnil,rfl⟩] at hF
                     conv => whnf
                     refine ⟨fun _ => ?_,fun g => zT g⟩
                     conv => whnf
                     exact ⟨⟨⟨op' ++ x,true,(y' :: ys')⟩,hF,by show (op' ++ x).size + ((y' :: ys'):List (ByteArray × Nat)).length + wr ≤ _; rw [ByteArray.size_append]; omega⟩,[0,1,2,3,4],⟨rfl,⟨rfl,rfl,rfl,rfl,rfl,rfl,rfl,rfl,rfl,rfl,trivial⟩,rfl⟩,rfl,rfl,rfl,rfl,rfl,rfl,rfl,rfl,rfl,trivial⟩
                   | false =>
                     rw [if_neg (fun h => Bool.noConfusion h.2)] at hF
                     conv => whnf
                     refine ⟨fun g => zF g,fun _ => ?_⟩
                     conv => whnf
                     conv => whnf
                     have hml:((y' :: ys').map Prod.fst).length = ys'.length + 1 := by simp
                     have hml2:(((y' :: ys').map Prod.snd).map fun (n:Nat) => (n:Int)).length = ys'.length + 1 := by simp
                     refine ⟨hml.symm,[op' ++ x],⟨rfl,rfl,rfl⟩,by rw [List.length_append,hml]; simp only [List.length_cons,List.length_nil] at hb ⊢; omega,by rw [List.length_append,hml]; simp only [List.length_cons,List.length_nil] at hb ⊢; omega,?_⟩
                     conv => whnf
                     refine ⟨hml2.symm,[((c:Nat):Int)],⟨rfl,rfl,rfl⟩,by rw [List.length_append,hml2]; simp only [List.length_cons,List.length_nil] at hb ⊢; omega,by rw [List.length_append,hml2]; simp only [List.length_cons,List.length_nil] at hb ⊢; omega,?_⟩
                     conv => whnf
                     refine ⟨⟨(k + 1,⟨eS,false,(y' :: ys') ++ [(op' ++ x,c)]⟩),by show k + 1 ≤ (x0 :: xr).length; omega,hF,by show 0 + ((y' :: ys') ++ [(op' ++ x,c)]).length + ((x0 :: xr).drop (k + 1)).length + psz ((x0 :: xr).drop (k + 1)) + wr ≤ _; simp only [List.length_append,List.length_cons,List.length_nil] at hb ⊢; omega⟩,⟨[0,1,2,6,8],⟨rfl,⟨rfl,rfl,rfl,rfl,rfl,rfl,?_,rfl,?_,rfl,trivial⟩,rfl⟩,rfl,rfl,rfl,eq_i64 (by rw [nadd,nwrapi (by omega)]),rfl,?_,?_,rfl,rfl,rfl,rfl,rfl,trivial⟩,by show (x0 :: xr).length - (k + 1) < (x0 :: xr).length - k; omega⟩
                     · show some (strB (((y' :: ys').map Prod.fst) ++ [op' ++ x])) = some (strB (((y' :: ys') ++ [(op' ++ x,c)]).map Prod.fst))
                       rw [List.map_append]
                       rfl
                     · show some (Blk.vec true 39 (encI .u64) [] 1 ((((y' :: ys').map Prod.snd).map fun (n:Nat) => (n:Int)) ++ [((c:Nat):Int)])) = some (grB (((y' :: ys') ++ [(op' ++ x,c)]).map Prod.snd))
                       unfold grB
                       rw [List.map_append,List.map_append]
                       rfl
                     · show some (AV.o (.c (CV.vec 6 (((y' :: ys').map Prod.fst) ++ [op' ++ x]).length))) = some (AV.o (.c (CV.vec 6 ((y' :: ys') ++ [(op' ++ x,c)]).length)))
                       rw [List.length_append,List.length_append,hml]
                       rfl
                     · show some (AV.o (.c (CV.vec 8 ((((y' :: ys').map Prod.snd).map fun (n:Nat) => (n:Int)) ++ [((c:Nat):Int)]).length))) = some (AV.o (.c (CV.vec 8 ((y' :: ys') ++ [(op' ++ x,c)]).length)))
                       rw [List.length_append,List.length_append,hml2]
                       rfl
                 · have g1 := beq_f g1
                   have hne:(x0 :: xr).drop (k + 1) ≠ [] := by
                     intro h
                     have := congrArg List.length h
                     rw [List.length_drop,List.length_nil,List.length_cons] at this
                     omega
                   rw [if_neg (fun h => hne h.1)] at hF
                   conv => whnf
                   conv => whnf
                   have hml:((y' :: ys').map Prod.fst).length = ys'.length + 1 := by simp
                   have hml2:(((y' :: ys').map Prod.snd).map fun (n:Nat) => (n:Int)).length = ys'.length + 1 := by simp
                   refine ⟨hml.symm,[op' ++ x],⟨rfl,rfl,rfl⟩,by rw [List.length_append,hml]; simp only [List.length_cons,List.length_nil] at hb ⊢; omega,by rw [List.length_append,hml]; simp only [List.length_cons,List.length_nil] at hb ⊢; omega,?_⟩
                   conv => whnf
                   refine ⟨hml2.symm,[((c:Nat):Int)],⟨rfl,rfl,rfl⟩,by rw [List.length_append,hml2]; simp only [List.length_cons,List.length_nil] at hb ⊢; omega,by rw [List.length_append,hml2]; simp only [List.length_cons,List.length_nil] at hb ⊢; omega,?_⟩
                   conv => whnf
                   refine ⟨⟨(k + 1,⟨eS,false,(y' :: ys') ++ [(op' ++ x,c)]⟩),by show k + 1 ≤ (x0 :: xr).length; omega,hF,by show 0 + ((y' :: ys') ++ [(op' ++ x,c)]).length + ((x0 :: xr).drop (k + 1)).length + psz ((x0 :: xr).drop (k + 1)) + wr ≤ _; simp only [List.length_append,List.length_cons,List.length_nil] at hb ⊢; omega⟩,⟨[0,1,2,6,8],⟨rfl,⟨rfl,rfl,rfl,rfl,rfl,rfl,?_,rfl,?_,rfl,trivial⟩,rfl⟩,rfl,rfl,rfl,eq_i64 (by rw [nadd,nwrapi (by omega)]),rfl,?_,?_,rfl,rfl,rfl,rfl,rfl,trivial⟩,by show (x0 :: xr).length - (k + 1) < (x0 :: xr).length - k; omega⟩
                   · show some (strB (((y' :: ys').map Prod.fst) ++ [op' ++ x])) = some (strB (((y' :: ys') ++ [(op' ++ x,c)]).map Prod.fst))
                     rw [List.map_append]
                     rfl
                   · show some (Blk.vec true 39 (encI .u64) [] 1 ((((y' :: ys').map Prod.snd).map fun (n:Nat) => (n:Int)) ++ [((c:Nat):Int)])) = some (grB (((y' :: ys') ++ [(op' ++ x,c)]).map Prod.snd))
                     unfold grB
                     rw [List.map_append,List.map_append]
                     rfl
                   · show some (AV.o (.c (CV.vec 6 (((y' :: ys').map Prod.fst) ++ [op' ++ x]).length))) = some (AV.o (.c (CV.vec 6 ((y' :: ys') ++ [(op' ++ x,c)]).length)))
                     rw [List.length_append,List.length_append,hml]
                     rfl
                   · show some (AV.o (.c (CV.vec 8 ((((y' :: ys').map Prod.snd).map fun (n:Nat) => (n:Int)) ++ [((c:Nat):Int)]).length))) = some (AV.o (.c (CV.vec 8 ((y' :: ys') ++ [(op' ++ x,c)]).length)))
                     rw [List.length_append,List.length_append,hml2]
                     rfl
             · have g:xr.length + 1 ≤ k := lt_f g
               have hdk:(x0 :: xr).drop k = [] := List.drop_of_length_le g
               rw [hdk] at hF hb
               rw [prt] at hF
               have hb:op'.size + pl'.length + wr ≤ 1099511627776 := by
                 have:op'.size + pl'.length + 0 + 0 + wr ≤ 1099511627776 := hb
                 omega
               cases pl' with
               | nil =>
                 conv => whnf
                 exact ⟨⟨⟨op',go',[]⟩,hF,hb⟩,⟨[0,1,2],⟨rfl,⟨rfl,rfl,rfl,rfl,rfl,rfl,trivial⟩,rfl⟩,rfl,rfl,rfl,rfl,rfl,rfl,rfl,rfl,rfl,trivial⟩⟩
               | cons y' ys' =>
                 conv => whnf
                 exact ⟨⟨⟨op',go',y' :: ys'⟩,hF,hb⟩,⟨[0,1,2,3,4],⟨rfl,⟨rfl,rfl,rfl,rfl,rfl,rfl,rfl,rfl,rfl,rfl,trivial⟩,rfl⟩,rfl,rfl,rfl,rfl,rfl,rfl,rfl,rfl,rfl,trivial⟩⟩
           obtain ⟨op',go',pl'⟩ := s'
           have hF := hs'.1
           have hb := hs'.2
           cases pl' with
           | nil =>
             conv => whnf
             refine ⟨fun g => absurd (beq_t (a := xr.length + 1) (b := 0) g) (by omega),fun _ => ?_⟩
             conv => whnf
             exact ⟨⟨⟨op',go',[]⟩,hF,hb⟩,⟨[0,1],⟨rfl,⟨rfl,rfl,rfl,rfl,trivial⟩,rfl⟩,rfl,rfl,rfl,rfl,rfl,rfl,rfl,rfl,trivial⟩⟩
           | cons y' ys' =>
             conv => whnf
             refine ⟨fun g => absurd (beq_t (a := xr.length + 1) (b := 0) g) (by omega),fun _ => ?_⟩
             conv => whnf
             exact ⟨⟨⟨op',go',y' :: ys'⟩,hF,hb⟩,⟨[0,1,3,4],⟨rfl,⟨rfl,rfl,rfl,rfl,rfl,rfl,rfl,rfl,trivial⟩,rfl⟩,rfl,rfl,rfl,rfl,rfl,rfl,rfl,rfl,trivial⟩⟩
         | cons y ys =>
           conv => whnf
           refine Or.inr ⟨PLift (¬ badPg ser0 (pvS l j) ⟨a,q,c,d,(x0 :: xr),m⟩ go),fun _ => pkOut ps ⟨a,q,c,d,(x0 :: xr),m⟩ f o n cc j op go (y :: ys),?_,fun ⟨hgood⟩ => ?_⟩
           · conv => whnf
             refine ⟨⟨by omega,by omega⟩,?_⟩
             conv => whnf
             refine ⟨(p0,f0),?_⟩
             conv => whnf
             refine ⟨hrow0,?_⟩
             conv => whnf
             refine ⟨fun g1 => ?_,fun g1 => ?_⟩
             · have k1:a ≠ ser0 := by
                 rw [hser]
                 exact of_bne g1
               have hF' := pks_none hF (.inl k1)
               subst hF'
               conv => whnf
               exact Or.inr ⟨[0,1],.t [.c (.val (.slice none 0 0)),.c (.val (.slice none 0 0)),.c (.val (.bool false)),.c (.val (.int .i64 ((2:Nat):Int)))],[pgsB 1 ps,famB ps],⟨rfl,⟨rfl,rfl,rfl,rfl,trivial⟩,rfl⟩,rfl,rfl,rfl⟩
             have k1:a = ser0 := by
               rw [hser]
               exact of_bne_f g1
             conv => whnf
             refine ⟨fun g2 => ?_,fun g2 => ?_⟩
             · have g2:0 < j := gt_t g2
               obtain ⟨j',rfl⟩:∃ j',j = j' + 1 := ⟨j - 1,by omega⟩
               obtain ⟨pp,hpp⟩:∃ pp,ps[o + j']? = some pp := ⟨_,List.getElem?_eq_getElem (by omega)⟩
               obtain ⟨fp,hrowp,_⟩ := rowsP_get ps 0 (o + j') pp hpp
               have hpf := hf pp (List.mem_of_getElem? hpp)
               have hpv:pvS l (j' + 1) = some pp.seq := by
                 show (l[j']?).map Pg.seq = _
                 rw [hl,List.getElem?_drop,hpp]
                 rfl
               conv => whnf
               rw [nsub (a := j' + 1) (b := 1) (by omega),nwrapi (n := j' + 1 - 1) (by omega)]
               refine ⟨⟨by omega,by omega⟩,?_⟩
               conv => whnf
               refine ⟨(pp,fp),?_⟩
               conv => whnf
               refine ⟨hrowp,?_⟩
               conv => whnf
               have hsq:IntKind.u32.wrap (((pp.seq:Nat):Int) + ((1:Nat):Int)) = (((pp.seq + 1) % 4294967296:Nat):Int) := by
                 rw [IntKind.wrap_u32]
                 omega
               rw [hsq]
               refine ⟨fun g3 => ?_,fun g3 => ?_⟩
               · have g3 := of_bne g3
                 have hF' := pks_none hF (.inr (.inl ⟨_,hpv,g3⟩))
                 subst hF'
                 conv => whnf
                 exact Or.inr ⟨[0,1],.t [.c (.val (.slice none 0 0)),.c (.val (.slice none 0 0)),.c (.val (.bool false)),.c (.val (.int .i64 ((2:Nat):Int)))],[pgsB 1 ps,famB ps],⟨rfl,⟨rfl,rfl,rfl,rfl,trivial⟩,rfl⟩,rfl,rfl,rfl⟩
               have g3 := of_bne_f g3
               conv => whnf
               rw [flag1 hfit.2.2.2.1 hfit.2.2.2.2]
               refine ⟨fun g4 => ?_,fun g4 => ?_⟩
               · have g4 := pk_bad (p := ⟨a,q,c,d,(x0 :: xr),m⟩) g4
                 have hF' := pks_none hF (.inr (.inr g4))
                 subst hF'
                 conv => whnf
                 exact Or.inr ⟨[0,1],.t [.c (.val (.slice none 0 0)),.c (.val (.slice none 0 0)),.c (.val (.bool false)),.c (.val (.int .i64 ((2:Nat):Int)))],[pgsB 1 ps,famB ps],⟨rfl,⟨rfl,rfl,rfl,rfl,trivial⟩,rfl⟩,rfl,rfl,rfl⟩
               have g4 := pk_good (p := ⟨a,q,c,d,(x0 :: xr),m⟩) g4
               conv => whnf
               refine ⟨⟨?_⟩,⟨[0,1,4,2,3],⟨rfl,⟨rfl,rfl,rfl,rfl,rfl,rfl,rfl,rfl,rfl,rfl,trivial⟩,rfl⟩,rfl,rfl,rfl,rfl,rfl,rfl,rfl,rfl,rfl,trivial⟩⟩
               rintro (h | ⟨q',h,h'⟩ | h)
               · exact h k1
               · rw [hpv] at h
                 cases h
                 exact h' g3
               · exact g4 h
             · have g2:j = 0 := by
                 have := gt_f (b := 0) g2
                 omega
               subst g2
               conv => whnf
               rw [flag1 hfit.2.2.2.1 hfit.2.2.2.2]
               refine ⟨fun g4 => ?_,fun g4 => ?_⟩
               · have g4 := pk_bad (p := ⟨a,q,c,d,(x0 :: xr),m⟩) g4
                 have hF' := pks_none hF (.inr (.inr g4))
                 subst hF'
                 conv => whnf
                 exact Or.inr ⟨[0,1],.t [.c (.val (.slice none 0 0)),.c (.val (.slice none 0 0)),.c (.val (.bool false)),.c (.val (.int .i64 ((2:Nat):Int)))],[pgsB 1 ps,famB ps],⟨rfl,⟨rfl,rfl,rfl,rfl,trivial⟩,rfl⟩,rfl,rfl,rfl⟩
               have g4 := pk_good (p := ⟨a,q,c,d,(x0 :: xr),m⟩) g4
               conv => whnf
               refine ⟨⟨?_⟩,⟨[0,1,4,2,3],⟨rfl,⟨rfl,rfl,rfl,rfl,rfl,rfl,rfl,rfl,rfl,rfl,trivial⟩,rfl⟩,rfl,rfl,rfl,rfl,rfl,rfl,rfl,rfl,rfl,trivial⟩⟩
               rintro (h | ⟨q',h,h'⟩ | h)
               · exact h k1
               · cases h
               · exact g4 h
           have hF := pks_some hF hgood
           rw [if_neg (fun h => List.noConfusion rfl (heq_of_eq h.1))] at hF
           conv => whnf
           refine Or.inr ⟨{s':PkS // F = pks ser0 (some q) (l.drop (j + 1)) s' ∧ s'.op.size + s'.l.length + wr ≤ 1099511627776},fun ⟨⟨op,go,l⟩,_⟩ => pkOut ps ⟨a,q,c,d,x0 :: xr,m⟩ f o n cc j op go l,?_,fun ⟨s',hs'⟩ => ?_⟩
           · conv => whnf
             refine ⟨{x:Nat × PkS // x.1 ≤ (x0 :: xr).length ∧ F = pks ser0 (some q) (l.drop (j + 1)) (prt c m ((x0 :: xr).drop x.1) x.2) ∧ x.2.op.size + x.2.l.length + ((x0 :: xr).drop x.1).length + psz ((x0 :: xr).drop x.1) + wr ≤ 1099511627776},fun ⟨⟨k,⟨op,go,l⟩⟩,_⟩ => pkIn ps ⟨a,q,c,d,x0 :: xr,m⟩ f (xr.length + 1) o n cc j k op go l,fun x => (x0 :: xr).length - x.1.1,⟨⟨(0,⟨op,go,(y :: ys)⟩),Nat.zero_le _,hF,by show op.size + ((y :: ys):List (ByteArray × Nat)).length + (x0 :: xr).length + psz (x0 :: xr) + wr ≤ _; omega⟩,[0,1,2,3,4],⟨rfl,⟨rfl,rfl,rfl,rfl,rfl,rfl,rfl,rfl,rfl,rfl,trivial⟩,rfl⟩,rfl,rfl,rfl,rfl,rfl,rfl,rfl,rfl,rfl,rfl,rfl,rfl,trivial⟩,fun ⟨⟨k,s⟩,h⟩ => ?_⟩
             have hk := h.1
             have hF := h.2.1
             have hb := h.2.2
             simp only at hk hF hb
             obtain ⟨op',go',pl'⟩ := s
             simp only at hF hb
             conv => whnf
             refine ⟨fun g => ?_,fun g => ?_⟩
             · have g:k < xr.length + 1 := lt_t g
               obtain ⟨x,hx⟩:∃ x,(x0 :: xr)[k]? = some x := ⟨_,List.getElem?_eq_getElem g⟩
               have hdk:(x0 :: xr).drop k = x :: (x0 :: xr).drop (k + 1) := List.drop_eq_getElem?_toList_append.trans (by rw [hx]; rfl)
               have hxl:(x0 :: xr).length = xr.length + 1 := rfl
               rw [hdk] at hF hb
               rw [prt] at hF
               rw [List.length_cons,psz] at hb
               cases pl' with
               | nil =>
                 conv => whnf
                 refine Or.inl ?_
                 conv => whnf
                 refine ⟨⟨by omega,by omega⟩,?_⟩
                 conv => whnf
                 refine ⟨x0 :: xr,x,hfam,hx,?_⟩
                 conv => whnf
                 refine ⟨by omega,?_⟩
                 conv => whnf
                 refine Or.inl ?_
                 conv => whnf
                 have hw1:IntKind.i64.wrap ((((Pg.mk a q c d (x0 :: xr) m).parts.length:Nat):Int) - ((1:Nat):Int)) = ((xr.length:Nat):Int) := by
                   show IntKind.i64.wrap (((xr.length + 1:Nat):Int) - ((1:Nat):Int)) = _
                   rw [IntKind.wrap_i64]
                   omega
                 rw [hw1]
                 refine ⟨fun g1 => ?_,fun g1 => ?_⟩
                 · have g1:k = xr.length := by
                     have := beq_t g1
                     omega
                   have hnil:(x0 :: xr).drop (k + 1) = [] := List.drop_of_length_le (by rw [g1]; exact Nat.le_refl _)
                   cases m with
                   | true =>
                     rw [if_pos ⟨hnil,rfl⟩] at hF
                     conv => whnf
                     refine ⟨fun _ => ?_,fun g => zT g⟩
                     conv => whnf
                     exact ⟨⟨⟨op' ++ x,true,[]⟩,hF,by show (op' ++ x).size + ([]:List (ByteArray × Nat)).length + wr ≤ _; rw [ByteArray.size_append]; omega⟩,[0,1,2],⟨rfl,⟨rfl,rfl,rfl,rfl,rfl,rfl,trivial⟩,rfl⟩,rfl,rfl,rfl,rfl,rfl,rfl,rfl,rfl,rfl,trivial⟩
                   | false =>
                     rw [if_neg (fun h => Bool.noConfusion h.2)] at hF
                     conv => whnf
                     refine ⟨fun g => zF g,fun _ => ?_⟩
                     conv => whnf
                     conv => whnf
                     refine ⟨by omega,ByteArray,encStr,[],[op' ++ x],fun _ => rfl,⟨rfl,rfl,rfl⟩,by simp only [List.length_cons,List.length_nil]; omega,by simp only [List.length_cons,List.length_nil]; omega,?_⟩
                     conv => whnf
                     refine ⟨by omega,Int,encI .u64,[],[((c:Nat):Int)],fun _ => rfl,⟨rfl,rfl,rfl⟩,by simp only [List.length_cons,List.length_nil]; omega,by simp only [List.length_cons,List.length_nil]; omega,?_⟩
                     conv => whnf
                     exact ⟨⟨(k + 1,⟨eS,false,[(op' ++ x,c)]⟩),by show k + 1 ≤ (x0 :: xr).length; omega,hF,by show 0 + 1 + ((x0 :: xr).drop (k + 1)).length + psz ((x0 :: xr).drop (k + 1)) + wr ≤ _; simp only [List.length_nil] at hb; omega⟩,⟨[0,1,2,4,6],⟨rfl,⟨rfl,rfl,rfl,rfl,rfl,rfl,rfl,rfl,rfl,rfl,trivial⟩,rfl⟩,rfl,rfl,rfl,eq_i64 (by rw [nadd,nwrapi (by omega)]),rfl,rfl,rfl,rfl,rfl,rfl,rfl,rfl,trivial⟩,by show (x0 :: xr).length - (k + 1) < (x0 :: xr).length - k; omega⟩
                 · have g1 := beq_f g1
                   have hne:(x0 :: xr).drop (k + 1) ≠ [] := by
                     intro h
                     have := congrArg List.length h
                     rw [List.length_drop,List.length_nil,List.length_cons] at this
                     omega
                   rw [if_neg (fun h => hne h.1)] at hF
                   conv => whnf
                   conv => whnf
                   refine ⟨by omega,ByteArray,encStr,[],[op' ++ x],fun _ => rfl,⟨rfl,rfl,rfl⟩,by simp only [List.length_cons,List.length_nil]; omega,by simp only [List.length_cons,List.length_nil]; omega,?_⟩
                   conv => whnf
                   refine ⟨by omega,Int,encI .u64,[],[((c:Nat):Int)],fun _ => rfl,⟨rfl,rfl,rfl⟩,by simp only [List.length_cons,List.length_nil]; omega,by simp only [List.length_cons,List.length_nil]; omega,?_⟩
                   conv => whnf
                   exact ⟨⟨(k + 1,⟨eS,false,[(op' ++ x,c)]⟩),by show k + 1 ≤ (x0 :: xr).length; omega,hF,by show 0 + 1 + ((x0 :: xr).drop (k + 1)).length + psz ((x0 :: xr).drop (k + 1)) + wr ≤ _; simp only [List.length_nil] at hb; omega⟩,⟨[0,1,2,4,6],⟨rfl,⟨rfl,rfl,rfl,rfl,rfl,rfl,rfl,rfl,rfl,rfl,trivial⟩,rfl⟩,rfl,rfl,rfl,eq_i64 (by rw [nadd,nwrapi (by omega)]),rfl,rfl,rfl,rfl,rfl,rfl,rfl,rfl,trivial⟩,by show (x0 :: xr).length - (k + 1) < (x0 :: xr).length - k; omega⟩
               | cons y' ys' =>
                 conv => whnf
                 refine Or.inl ?_
                 conv => whnf
                 refine ⟨⟨by omega,by omega⟩,?_⟩
                 conv => whnf
                 refine ⟨x0 :: xr,x,hfam,hx,?_⟩
                 conv => whnf
                 refine ⟨by omega,?_⟩
                 conv => whnf
                 refine Or.inl ?_
                 conv => whnf
                 have hw1:IntKind.i64.wrap ((((Pg.mk a q c d (x0 :: xr) m).parts.length:Nat):Int) - ((1:Nat):Int)) = ((xr.length:Nat):Int) := by
                   show IntKind.i64.wrap (((xr.length + 1:Nat):Int) - ((1:Nat):Int)) = _
                   rw [IntKind.wrap_i64]
                   omega
                 rw [hw1]
                 refine ⟨fun g1 => ?_,fun g1 => ?_⟩
                 · have g1:k = xr.length := by
                     have := beq_t g1
                     omega
                   have hnil:(x0 :: xr).drop (k + 1) = [] := List.drop_of_length_le (by rw [g1]; exact Nat.le_refl _)
                   cases m with
                   | true =>
                     rw [if_pos ⟨hnil,rfl⟩] at hF
                     conv => whnf
                     refine ⟨fun _ => ?_,fun g => zT g⟩
                     conv => whnf
                     exact ⟨⟨⟨op' ++ x,true,(y' :: ys')⟩,hF,by show (op' ++ x).size + ((y' :: ys'):List (ByteArray × Nat)).length + wr ≤ _; rw [ByteArray.size_append]; omega⟩,[0,1,2,3,4],⟨rfl,⟨rfl,rfl,rfl,rfl,rfl,rfl,rfl,rfl,rfl,rfl,trivial⟩,rfl⟩,rfl,rfl,rfl,rfl,rfl,rfl,rfl,rfl,rfl,trivial⟩
                   | false =>
                     rw [if_neg (fun h => Bool.noConfusion h.2)] at hF
                     conv => whnf
                     refine ⟨fun g => zF g,fun _ => ?_⟩
                     conv => whnf
                     conv => whnf
                     have hml:((y' :: ys').map Prod.fst).length = ys'.length + 1 := by simp
                     have hml2:(((y' :: ys').map Prod.snd).map fun (n:Nat) => (n:Int)).length = ys'.length + 1 := by simp
                     refine ⟨hml.symm,[op' ++ x],⟨rfl,rfl,rfl⟩,by rw [List.length_append,hml]; simp only [List.length_cons,List.length_nil] at hb ⊢; omega,by rw [List.length_append,hml]; simp only [List.length_cons,List.length_nil] at hb ⊢; omega,?_⟩
                     conv => whnf
                     refine ⟨hml2.symm,[((c:Nat):Int)],⟨rfl,rfl,rfl⟩,by rw [List.length_append,hml2]; simp only [List.length_cons,List.length_nil] at hb ⊢; omega,by rw [List.length_append,hml2]; simp only [List.length_cons,List.length_nil] at hb ⊢; omega,?_⟩
                     conv => whnf
                     refine ⟨⟨(k + 1,⟨eS,false,(y' :: ys') ++ [(op' ++ x,c)]⟩),by show k + 1 ≤ (x0 :: xr).length; omega,hF,by show 0 + ((y' :: ys') ++ [(op' ++ x,c)]).length + ((x0 :: xr).drop (k + 1)).length + psz ((x0 :: xr).drop (k + 1)) + wr ≤ _; simp only [List.length_append,List.length_cons,List.length_nil] at hb ⊢; omega⟩,⟨[0,1,2,6,8],⟨rfl,⟨rfl,rfl,rfl,rfl,rfl,rfl,?_,rfl,?_,rfl,trivial⟩,rfl⟩,rfl,rfl,rfl,eq_i64 (by rw [nadd,nwrapi (by omega)]),rfl,?_,?_,rfl,rfl,rfl,rfl,rfl,trivial⟩,by show (x0 :: xr).length - (k + 1) < (x0 :: xr).length - k; omega⟩
                     · show some (strB (((y' :: ys').map Prod.fst) ++ [op' ++ x])) = some (strB (((y' :: ys') ++ [(op' ++ x,c)]).map Prod.fst))
                       rw [List.map_append]
                       rfl
                     · show some (Blk.vec true 39 (encI .u64) [] 1 ((((y' :: ys').map Prod.snd).map fun (n:Nat) => (n:Int)) ++ [((c:Nat):Int)])) = some (grB (((y' :: ys') ++ [(op' ++ x,c)]).map Prod.snd))
                       unfold grB
                       rw [List.map_append,List.map_append]
                       rfl
                     · show some (AV.o (.c (CV.vec 6 (((y' :: ys').map Prod.fst) ++ [op' ++ x]).length))) = some (AV.o (.c (CV.vec 6 ((y' :: ys') ++ [(op' ++ x,c)]).length)))
                       rw [List.length_append,List.length_append,hml]
                       rfl
                     · show some (AV.o (.c (CV.vec 8 ((((y' :: ys').map Prod.snd).map fun (n:Nat) => (n:Int)) ++ [((c:Nat):Int)]).length))) = some (AV.o (.c (CV.vec 8 ((y' :: ys') ++ [(op' ++ x,c)]).length)))
                       rw [List.length_append,List.length_append,hml2]
                       rfl
                 · have g1 := beq_f g1
                   have hne:(x0 :: xr).drop (k + 1) ≠ [] := by
                     intro h
                     have := congrArg List.length h
                     rw [List.length_drop,List.length_nil,List.length_cons] at this
                     omega
                   rw [if_neg (fun h => hne h.1)] at hF
                   conv => whnf
                   conv => whnf
                   have hml:((y' :: ys').map Prod.fst).length = ys'.length + 1 := by simp
                   have hml2:(((y' :: ys').map Prod.snd).map fun (n:Nat) => (n:Int)).length = ys'.length + 1 := by simp
                   refine ⟨hml.symm,[op' ++ x],⟨rfl,rfl,rfl⟩,by rw [List.length_append,hml]; simp only [List.length_cons,List.length_nil] at hb ⊢; omega,by rw [List.length_append,hml]; simp only [List.length_cons,List.length_nil] at hb ⊢; omega,?_⟩
                   conv => whnf
                   refine ⟨hml2.symm,[((c:Nat):Int)],⟨rfl,rfl,rfl⟩,by rw [List.length_append,hml2]; simp only [List.length_cons,List.length_nil] at hb ⊢; omega,by rw [List.length_append,hml2]; simp only [List.length_cons,List.length_nil] at hb ⊢; omega,?_⟩
                   conv => whnf
                   refine ⟨⟨(k + 1,⟨eS,false,(y' :: ys') ++ [(op' ++ x,c)]⟩),by show k + 1 ≤ (x0 :: xr).length; omega,hF,by show 0 + ((y' :: ys') ++ [(op' ++ x,c)]).length + ((x0 :: xr).drop (k + 1)).length + psz ((x0 :: xr).drop (k + 1)) + wr ≤ _; simp only [List.length_append,List.length_cons,List.length_nil] at hb ⊢; omega⟩,⟨[0,1,2,6,8],⟨rfl,⟨rfl,rfl,rfl,rfl,rfl,rfl,?_,rfl,?_,rfl,trivial⟩,rfl⟩,rfl,rfl,rfl,eq_i64 (by rw [nadd,nwrapi (by omega)]),rfl,?_,?_,rfl,rfl,rfl,rfl,rfl,trivial⟩,by show (x0 :: xr).length - (k + 1) < (x0 :: xr).length - k; omega⟩
                   · show some (strB (((y' :: ys').map Prod.fst) ++ [op' ++ x])) = some (strB (((y' :: ys') ++ [(op' ++ x,c)]).map Prod.fst))
                     rw [List.map_append]
                     rfl
                   · show some (Blk.vec true 39 (encI .u64) [] 1 ((((y' :: ys').map Prod.snd).map fun (n:Nat) => (n:Int)) ++ [((c:Nat):Int)])) = some (grB (((y' :: ys') ++ [(op' ++ x,c)]).map Prod.snd))
                     unfold grB
                     rw [List.map_append,List.map_append]
                     rfl
                   · show some (AV.o (.c (CV.vec 6 (((y' :: ys').map Prod.fst) ++ [op' ++ x]).length))) = some (AV.o (.c (CV.vec 6 ((y' :: ys') ++ [(op' ++ x,c)]).length)))
                     rw [List.length_append,List.length_append,hml]
                     rfl
                   · show some (AV.o (.c (CV.vec 8 ((((y' :: ys').map Prod.snd).map fun (n:Nat) => (n:Int)) ++ [((c:Nat):Int)]).length))) = some (AV.o (.c (CV.vec 8 ((y' :: ys') ++ [(op' ++ x,c)]).length)))
                     rw [List.length_append,List.length_append,hml2]
                     rfl
             · have g:xr.length + 1 ≤ k := lt_f g
               have hdk:(x0 :: xr).drop k = [] := List.drop_of_length_le g
               rw [hdk] at hF hb
               rw [prt] at hF
               have hb:op'.size + pl'.length + wr ≤ 1099511627776 := by
                 have:op'.size + pl'.length + 0 + 0 + wr ≤ 1099511627776 := hb
                 omega
               cases pl' with
               | nil =>
                 conv => whnf
                 exact ⟨⟨⟨op',go',[]⟩,hF,hb⟩,⟨[0,1,2],⟨rfl,⟨rfl,rfl,rfl,rfl,rfl,rfl,trivial⟩,rfl⟩,rfl,rfl,rfl,rfl,rfl,rfl,rfl,rfl,rfl,trivial⟩⟩
               | cons y' ys' =>
                 conv => whnf
                 exact ⟨⟨⟨op',go',y' :: ys'⟩,hF,hb⟩,⟨[0,1,2,3,4],⟨rfl,⟨rfl,rfl,rfl,rfl,rfl,rfl,rfl,rfl,rfl,rfl,trivial⟩,rfl⟩,rfl,rfl,rfl,rfl,rfl,rfl,rfl,rfl,rfl,trivial⟩⟩
           obtain ⟨op',go',pl'⟩ := s'
           have hF := hs'.1
           have hb := hs'.2
           cases pl' with
           | nil =>
             conv => whnf
             refine ⟨fun g => absurd (beq_t (a := xr.length + 1) (b := 0) g) (by omega),fun _ => ?_⟩
             conv => whnf
             exact ⟨⟨⟨op',go',[]⟩,hF,hb⟩,⟨[0,1],⟨rfl,⟨rfl,rfl,rfl,rfl,trivial⟩,rfl⟩,rfl,rfl,rfl,rfl,rfl,rfl,rfl,rfl,trivial⟩⟩
           | cons y' ys' =>
             conv => whnf
             refine ⟨fun g => absurd (beq_t (a := xr.length + 1) (b := 0) g) (by omega),fun _ => ?_⟩
             conv => whnf
             exact ⟨⟨⟨op',go',y' :: ys'⟩,hF,hb⟩,⟨[0,1,3,4],⟨rfl,⟨rfl,rfl,rfl,rfl,rfl,rfl,rfl,rfl,trivial⟩,rfl⟩,rfl,rfl,rfl,rfl,rfl,rfl,rfl,rfl,trivial⟩⟩
     · rw [hwr,← hpv] at hs'
       obtain ⟨op,go,pl⟩ := s'
       cases pl with
       | nil =>
         conv => whnf
         exact ⟨⟨(j + 1,⟨op,go,[]⟩),g,hs'.1,hs'.2⟩,⟨[0,1],⟨rfl,⟨rfl,rfl,rfl,rfl,trivial⟩,rfl⟩,rfl,rfl,rfl,rfl,rfl,rfl,rfl,eq_i64 (by rw [nadd,nwrapi (by omega)]),trivial⟩,by show n - (j + 1) < n - j; omega⟩
       | cons y ys =>
         conv => whnf
         exact ⟨⟨(j + 1,⟨op,go,y :: ys⟩),g,hs'.1,hs'.2⟩,⟨[0,1,2,3],⟨rfl,⟨rfl,rfl,rfl,rfl,rfl,rfl,rfl,rfl,trivial⟩,rfl⟩,rfl,rfl,rfl,rfl,rfl,rfl,rfl,eq_i64 (by rw [nadd,nwrapi (by omega)]),trivial⟩,by show n - (j + 1) < n - j; omega⟩
   · have g:n ≤ j := lt_f g
     obtain rfl:j = n := by omega
     rw [List.drop_of_length_le (by omega)] at hF
     rw [show pks ser0 (pvS l j) [] s = some s from rfl] at hF
     obtain ⟨op,go,pl⟩ := s
     cases pl with
     | nil =>
       conv => whnf
       exact ⟨⟨_,hF⟩,[0,1],⟨rfl,⟨rfl,rfl,rfl,rfl,trivial⟩,rfl⟩,rfl,rfl,rfl,trivial⟩
     | cons y ys =>
       conv => whnf
       exact ⟨⟨_,hF⟩,[0,1,2,3],⟨rfl,⟨rfl,rfl,rfl,rfl,rfl,rfl,rfl,rfl,trivial⟩,rfl⟩,rfl,rfl,rfl,trivial⟩
 · subst hs
   obtain ⟨op,go,pl⟩ := s
   cases pl with
   | nil =>
     conv => whnf
     exact Or.inl ⟨rfl,rfl⟩
   | cons y ys =>
     conv => whnf
     exact Or.inl ⟨rfl,rfl⟩
end Go.Proofs.YtokkphocaloelaaGreatDoor

end
section
namespace Go.Proofs.YtokkphocaloelaaGreatDoor
open Go Go.Vc
set_option maxRecDepth 100000
theorem c3_:compF Tryz.prog 3 = some (.mk (sr [gg 2 (.box 25 (.t 0)),gg 4 (.mov (.k (.bool false)))] (.cut (sr [gg 15 (.ld (.t 2) (some 10)),gg 16 (.call 8 [(.t 15)]),gg 17 (.un .not (.t 16)),gm 18 17,gq 19 18 false (.mov (.t 1)),gq 20 18 false (.call 9 [(.t 19)]),gq 21 18 false (.un .not (.t 20)),gg 22 (.pick (.t 18) (.k (.bool true)) (.t 21))] (.cond (.t 22) (sr [gg 4 (.mov (.k (.bool true)))] .ret) .skip)) (sr [gg 24 (.ld (.t 2) (some 10)),gm 25 1,gg 26 (.call 10 [(.t 24),(.t 25)]),gm 23 26,gg 27 (.ext (.t 23) 0),gg 28 (.ext (.t 23) 1),gg 29 (.ext (.t 23) 2),gm 5 27,gm 6 28,gm 7 29] (.cut (sr [gm 30 7,gg 31 (.un .not (.t 30))] (.cond (.t 31) (sr [gg 4 (.mov (.k (.bool true)))] .ret) .skip)) (sr [gm 33 5,gm 34 6,gg 35 (.bin .add (.t 33) (.t 34)),gg 36 (.call 11 [(.t 35)]),gm 32 36,gg 37 (.ext (.t 32) 0),gg 38 (.ext (.t 32) 1),gg 39 (.ext (.t 32) 2),gg 40 (.ext (.t 32) 3),gm 8 37,gm 9 38,gm 10 39,gm 11 40] (.cut (sr [gm 41 11,gg 42 (.bin .neq (.t 41) (xk .i64 1))] (.cond (.t 42) (sr [gg 4 (.mov (.k (.bool true)))] .ret) .skip)) (sr [gm 44 5,gm 45 6,gg 46 (.bin .add (.t 44) (.t 45)),gg 47 (.call 12 [(.t 46)]),gm 43 47,gg 48 (.ext (.t 43) 0),gg 49 (.ext (.t 43) 1),gg 50 (.ext (.t 43) 2),gm 12 48,gm 13 49,gm 14 50] (sr [gm 51 14,gm 52 10,gg 53 (.bin .eql (.t 51) (.t 52)),gm 54 53,gq 55 54 true (.mov (.t 12)),gq 56 54 true (.mov (.t 8)),gq 57 54 true (.call 13 [(.t 55),(.t 56)]),gg 58 (.pick (.t 54) (.t 57) (.k (.bool false))),gm 59 58,gq 60 59 true (.mov (.t 13)),gq 61 59 true (.call 14 [(.t 60)]),gq 62 59 true (.mov (.t 9)),gq 63 59 true (.call 14 [(.t 62)]),gq 64 59 true (.bin .eql (.t 61) (.t 63)),gg 65 (.pick (.t 59) (.t 64) (.k (.bool false))),gm 66 65,gq 67 66 true (.call 15 []),gg 68 (.pick (.t 66) (.t 67) (.k (.bool false))),gm 4 68] .ret)))))))) 2 [(.t 4)]) := by kernel_rfl
theorem c11_:compF Tryz.prog 11 = some (.mk (sr [gg 2 (.mov (.k (.slice none 0 0))),gg 3 (.mov (.k (.slice none 0 0))),gg 4 (.mov (xk .i64 0)),gg 5 (.mov (xk .i64 0))] (sr [gm 10 0,gg 11 (.call 26 [(.t 10)]),gm 9 11,gg 12 (.ext (.t 9) 0),gg 13 (.ext (.t 9) 1),gm 6 12,gm 7 13] (.cut (sr [gm 14 7,gg 15 (.un .not (.t 14)),gm 16 15,gq 17 16 false (.mov (.t 6)),gq 18 16 false (.len false (.t 17)),gq 19 16 false (.bin .eql (.t 18) (xk .i64 0)),gg 20 (.pick (.t 16) (.k (.bool true)) (.t 19))] (.cond (.t 20) (sr [gg 2 (.mov (.k (.slice none 0 0))),gg 3 (.mov (.k (.slice none 0 0))),gg 4 (.mov (xk .i64 0)),gg 5 (.mov (xk .i64 2))] .ret) .skip)) (sr [gm 22 6,gg 23 (.call 27 [(.t 22)]),gm 21 23,gg 24 (.ext (.t 21) 0),gg 25 (.ext (.t 21) 1),gg 26 (.ext (.t 21) 2),gg 27 (.ext (.t 21) 3),gm 2 24,gm 3 25,gm 8 26,gm 5 27] (.cut (sr [gm 28 8,gg 29 (.un .not (.t 28))] (.cond (.t 29) (.reg [gg 4 (.mov (xk .i64 1))]) .skip)) (sr [gm 30 2,gm 31 3,gm 32 4,gm 33 5,gm 2 30,gm 3 31,gm 4 32,gm 5 33] .ret)))))) 1 [(.t 2),(.t 3),(.t 4),(.t 5)]) := by kernel_rfl
theorem c12_:compD Tryz.prog 12 = some (.mk (sr [gg 2 (.alc 31 [(.slice none 0 0)]),gg 3 (.alc 32 [(.slice none 0 0)]),gg 4 (.alc 3 [(.int .i64 ((0:Nat):Int))])] (sr [gg 11 (.mkf 28 [(.t 2),(.t 3),(.t 4)])] (sr [gm 13 0,gg 14 (.call 29 [(.t 13)]),gm 12 14,gg 15 (.ext (.t 12) 0),gg 16 (.ext (.t 12) 1),gg 17 (.ext (.t 12) 2),gm 5 15,gm 6 16,gm 7 17] (.cut (sr [gm 18 7,gg 19 (.inl true (.t 18))] (.cond (.t 19) (sr [(G.mk none none (.st (.t 2) (.k (.slice none 0 0)) 1)),(G.mk none none (.st (.t 3) (.k (.slice none 0 0)) 1)),(G.mk none none (.st (.t 4) (xk .i64 1) 1))] .ret) .skip)) (.block 0 (.loop (.block 1 (sr [gm 21 5,gg 22 (.call 30 [(.t 21)]),gm 20 22,gg 23 (.ext (.t 20) 0),gg 24 (.ext (.t 20) 1),gg 25 (.ext (.t 20) 2),gm 8 23,gm 9 24,gm 10 25] (.cut (sr [gm 26 10,gg 27 (.ld (.k (.pointer (some (Addr.mk 0 0 none)))) none),gg 28 (.ieq 71 false (.t 26) (.t 27))] (.cond (.t 28) (.seq (.drw [(.mk (gg 29 (.ld (.t 2) none)) 0 true []),(.mk (gg 30 (.ld (.t 3) none)) 1 true []),(.mk (G.mk none none (.st (.t 2) (.t 29) 1)) 2 false [1]),(.mk (G.mk none none (.st (.t 3) (.t 30) 1)) 3 false []),(.mk (G.mk none none (.st (.t 4) (xk .i64 0) 1)) 4 false [])]) .ret) .skip)) (.cut (sr [gm 31 10,gg 32 (.inl true (.t 31))] (.cond (.t 32) (.seq (.drw [(.mk (gg 33 (.ld (.t 2) none)) 0 true []),(.mk (gg 34 (.ld (.t 3) none)) 1 true []),(.mk (G.mk none none (.st (.t 2) (.t 33) 1)) 2 false [1]),(.mk (G.mk none none (.st (.t 3) (.t 34) 1)) 3 false []),(.mk (G.mk none none (.st (.t 4) (xk .i64 1) 1)) 4 false [])]) .ret) .skip)) (sr [gg 35 (.ld (.t 2) none),gm 36 8,gg 37 (.b2s (.t 36)),gg 38 (.bsl 9 1 1 [(.string (ByteArray.mk #[]))] [(0,(1,(.t 37)))]),gg 39 (.app 9 1 16 (.t 35) (.t 38)),(G.mk none none (.st (.t 2) (.t 39) 1))] (.drw [(.mk (gg 40 (.ld (.t 3) none)) 0 true []),(.mk (gm 41 9) 1 true []),(.mk (gg 42 (.nil (.t 41))) 2 true []),(.mk (gg 43 (.ffa (.t 42) 0)) 3 true []),(.mk (gg 44 (.ld (.t 43) none)) 4 true []),(.mk (gg 45 (.bsl 39 1 1 [(.int .u64 ((0:Nat):Int))] [(0,(1,(.t 44)))])) 5 false [0]),(.mk (gg 46 (.app 39 1 8 (.t 40) (.t 45))) 6 false []),(.mk (G.mk none none (.st (.t 3) (.t 46) 1)) 7 false [])])))))))))))) 1 [(.cell 2 none),(.cell 3 none),(.cell 4 none)]) := by kernel_rfl
theorem c29_:compF Tryz.prog 29 = some (.mk (sr [gg 2 (.mov (.k (.pointer none))),gg 3 (.mov (.k (.pointer none))),gg 4 (.mov (.k .nilIface))] (sr [gm 9 0,gg 10 (.s2b 5 (.t 9)),gg 11 (.bld [(.slice none 0 0)] [(0,(1,(.t 10)))]),gg 12 (.box 120 (.t 11)),gg 13 (.mki 118 (.t 12)),gg 14 (.call 52 [(.t 13)]),gm 8 14,gg 15 (.ext (.t 8) 0),gg 16 (.ext (.t 8) 1),gg 17 (.ext (.t 8) 2),gm 5 15,gm 6 16,gm 7 17] (.cut (sr [gm 18 7,gg 19 (.inl true (.t 18))] (.cond (.t 19) (sr [gm 20 7,gg 2 (.mov (.k (.pointer none))),gg 3 (.mov (.k (.pointer none))),gm 4 20] .ret) .skip)) (sr [gm 21 5,gm 22 6,gm 2 21,gm 3 22,gg 4 (.mov (.k .nilIface))] .ret)))) 1 [(.t 2),(.t 3),(.t 4)]) := by kernel_rfl
theorem c30_:compF Tryz.prog 30 = some (.mk (sr [gg 2 (.mov (.k (.slice none 0 0))),gg 3 (.mov (.k (.pointer none))),gg 4 (.mov (.k .nilIface))] (sr [gm 12 0,gg 13 (.call 53 [(.t 12)]),gm 5 13] (.cut (sr [gm 14 5,gg 15 (.nil (.t 14)),gg 16 (.ffa (.t 15) 0),gg 17 (.ld (.t 16) none),gg 18 (.len false (.t 17)),gg 19 (.bin .gtr (.t 18) (xk .i64 0))] (.cond (.t 19) (sr [gm 20 5,gg 21 (.nil (.t 20)),gg 22 (.ffa (.t 21) 0),gg 23 (.ld (.t 22) none),gg 24 (.ia (.t 23) (xk .i64 0) 2),gg 25 (.ld (.t 24) (some 2)),gg 6 (.alc 127 [(.slice none 0 0),(.pointer none)]),(G.mk none none (.st (.t 6) (.t 25) 2))] (sr [gm 26 5,gm 27 5,gg 28 (.nil (.t 27)),gg 29 (.ffa (.t 28) 0),gg 30 (.ld (.t 29) none),gg 31 (.slq (.t 30) (some (xk .i64 1)) none 2),gg 32 (.nil (.t 26)),gg 33 (.ffa (.t 32) 0),(G.mk none none (.st (.t 33) (.t 31) 1))] (.seq (.drw [(.mk (gg 34 (.ffa (.t 6) 0)) 0 true []),(.mk (gg 35 (.ld (.t 34) none)) 1 true []),(.mk (gg 36 (.ffa (.t 6) 1)) 2 true []),(.mk (gg 37 (.ld (.t 36) none)) 3 true []),(.mk (gm 2 35) 4 true []),(.mk (gm 3 37) 5 true []),(.mk (gg 4 (.mov (.k .nilIface))) 6 true [])]) .ret))) .skip)) (.block 0 (.loop (.block 1 (sr [gm 39 0,gg 40 (.call 54 [(.t 39)]),gm 38 40,gg 41 (.ext (.t 38) 0),gg 42 (.ext (.t 38) 1),gg 43 (.ext (.t 38) 2),gg 44 (.ext (.t 38) 3),gm 7 41,gm 8 42,gm 9 43,gm 10 44] (.cut (sr [gm 45 10,gg 46 (.inl true (.t 45))] (.cond (.t 46) (.cut (sr [gm 47 10,gg 48 (.ld (.k (.pointer (some (Addr.mk 0 0 none)))) none),gg 49 (.ieq 71 false (.t 47) (.t 48)),gm 50 49,gq 51 50 true (.mov (.t 5)),gq 52 50 true (.nil (.t 51)),gq 53 50 true (.ffa (.t 52) 1),gq 54 50 true (.ld (.t 53) none),gq 55 50 true (.len false (.t 54)),gq 56 50 true (.bin .neq (.t 55) (xk .i64 0)),gg 57 (.pick (.t 50) (.t 56) (.k (.bool false)))] (.cond (.t 57) (.seq (.drw [(.mk (gg 58 (.ld (.k (.pointer (some (Addr.mk 1 0 none)))) none)) 0 true []),(.mk (gg 2 (.mov (.k (.slice none 0 0)))) 1 true []),(.mk (gg 3 (.mov (.k (.pointer none)))) 2 true []),(.mk (gm 4 58) 3 true [])]) .ret) .skip)) (sr [gm 59 10,gg 2 (.mov (.k (.slice none 0 0))),gg 3 (.mov (.k (.pointer none))),gm 4 59] .ret)) .skip)) (.cut (sr [gm 60 0,gm 61 7,gm 62 8,gm 63 9,gg 64 (.call 55 [(.t 60),(.t 61),(.t 62),(.t 63)]),gm 10 64] (sr [gm 65 10,gg 66 (.inl true (.t 65))] (.cond (.t 66) (sr [gm 67 10,gg 2 (.mov (.k (.slice none 0 0))),gg 3 (.mov (.k (.pointer none))),gm 4 67] .ret) .skip))) (sr [gm 68 5,gg 69 (.nil (.t 68)),gg 70 (.ffa (.t 69) 0),gg 71 (.ld (.t 70) none),gg 72 (.len false (.t 71)),gg 73 (.bin .gtr (.t 72) (xk .i64 0))] (.cond (.t 73) (sr [gm 74 5,gg 75 (.nil (.t 74)),gg 76 (.ffa (.t 75) 0),gg 77 (.ld (.t 76) none),gg 78 (.ia (.t 77) (xk .i64 0) 2),gg 79 (.ld (.t 78) (some 2)),gg 11 (.alc 127 [(.slice none 0 0),(.pointer none)]),(G.mk none none (.st (.t 11) (.t 79) 2))] (sr [gm 80 5,gm 81 5,gg 82 (.nil (.t 81)),gg 83 (.ffa (.t 82) 0),gg 84 (.ld (.t 83) none),gg 85 (.slq (.t 84) (some (xk .i64 1)) none 2),gg 86 (.nil (.t 80)),gg 87 (.ffa (.t 86) 0),(G.mk none none (.st (.t 87) (.t 85) 1))] (.seq (.drw [(.mk (gg 88 (.ffa (.t 11) 0)) 0 true []),(.mk (gg 89 (.ld (.t 88) none)) 1 true []),(.mk (gg 90 (.ffa (.t 11) 1)) 2 true []),(.mk (gg 91 (.ld (.t 90) none)) 3 true []),(.mk (gm 2 89) 4 true []),(.mk (gm 3 91) 5 true []),(.mk (gg 4 (.mov (.k .nilIface))) 6 true [])]) .ret))) .skip))))))))))) 1 [(.t 2),(.t 3),(.t 4)]) := by kernel_rfl
theorem c52_:compF Tryz.prog 52 = some (.mk (sr [gg 2 (.mov (.k (.pointer none))),gg 3 (.mov (.k (.pointer none))),gg 4 (.mov (.k .nilIface))] (sr [gm 5 0,gg 6 (.call 90 [(.t 5),(.k (.bool true))]),gg 7 (.ext (.t 6) 0),gg 8 (.ext (.t 6) 1),gg 9 (.ext (.t 6) 2),gm 2 7,gm 3 8,gm 4 9] .ret)) 1 [(.t 2),(.t 3),(.t 4)]) := by kernel_rfl
theorem c53_:compF Tryz.prog 53 = some (.mk (sr [gg 2 (.mov (.k (.pointer none)))] (.cut (sr [gm 3 0,gg 4 (.nil (.t 3)),gg 5 (.ffa (.t 4) 4),gg 6 (.ld (.t 5) none),gg 7 (.pnl false (.t 6))] (.cond (.t 7) (.reg [gm 8 0,gg 9 (.bld [(.slice none 0 0),(.slice none 0 0),(.bool false),(.int .u32 ((0:Nat):Int)),(.bool false)] []),gg 10 (.box 125 (.t 9)),gg 11 (.nil (.t 8)),gg 12 (.ffa (.t 11) 4),(G.mk none none (.st (.t 12) (.t 10) 1))]) .skip)) (sr [gm 13 0,gg 14 (.nil (.t 13)),gg 15 (.ffa (.t 14) 4),gg 16 (.ld (.t 15) none),gm 2 16] .ret))) 1 [(.t 2)]) := by kernel_rfl
theorem c54_:compF Tryz.prog 54 = some (.mk (sr [gg 2 (.mov (.k (.slice none 0 0))),gg 3 (.mov (.k (.slice none 0 0))),gg 4 (.mov (.k (.pointer none))),gg 5 (.mov (.k .nilIface))] (sr [gg 15 (.mks 5 1 1 [(.int .u8 ((0:Nat):Int))] (xk .i64 27) (xk .i64 27)),gm 6 15] (sr [gm 17 0,gg 18 (.nil (.t 17)),gg 19 (.ffa (.t 18) 0),gg 20 (.ld (.t 19) none),gm 21 6,gg 22 (.call 91 [(.t 20),(.t 21)]),gm 16 22,gg 23 (.ext (.t 16) 0),gg 24 (.ext (.t 16) 1),gm 7 23,gm 8 24] (.cut (sr [gm 25 8,gg 26 (.inl true (.t 25))] (.cond (.t 26) (sr [gm 27 8,gg 2 (.mov (.k (.slice none 0 0))),gg 3 (.mov (.k (.slice none 0 0))),gg 4 (.mov (.k (.pointer none))),gm 5 27] .ret) (sr [gm 28 7,gm 29 6,gg 30 (.len false (.t 29)),gg 31 (.bin .lss (.t 28) (.t 30))] (.cond (.t 31) (.seq (.drw [(.mk (gg 32 (.ld (.k (.pointer (some (Addr.mk 2 0 none)))) none)) 0 true []),(.mk (gg 2 (.mov (.k (.slice none 0 0)))) 1 true []),(.mk (gg 3 (.mov (.k (.slice none 0 0)))) 2 true []),(.mk (gg 4 (.mov (.k (.pointer none)))) 3 true []),(.mk (gm 5 32) 4 true [])]) .ret) .skip)))) (.seq (.drw [(.mk (gm 33 6) 0 true []),(.mk (gg 34 (.ia (.t 33) (xk .i64 0) 1)) 1 true []),(.mk (gg 35 (.ld (.t 34) none)) 2 true []),(.mk (gm 36 6) 3 true []),(.mk (gg 37 (.ia (.t 36) (xk .i64 1) 1)) 4 true []),(.mk (gg 38 (.ld (.t 37) none)) 5 true []),(.mk (gm 39 6) 6 true []),(.mk (gg 40 (.ia (.t 39) (xk .i64 2) 1)) 7 true []),(.mk (gg 41 (.ld (.t 40) none)) 8 true []),(.mk (gm 42 6) 9 true []),(.mk (gg 43 (.ia (.t 42) (xk .i64 3) 1)) 10 true []),(.mk (gg 44 (.ld (.t 43) none)) 11 true []),(.mk (gg 45 (.bld [(.int .u8 ((0:Nat):Int)),(.int .u8 ((0:Nat):Int)),(.int .u8 ((0:Nat):Int)),(.int .u8 ((0:Nat):Int))] [(0,(1,(.t 35))),(1,(1,(.t 38))),(2,(1,(.t 41))),(3,(1,(.t 44)))])) 12 true []),(.mk (gg 46 (.bld [(.int .u64 ((0:Nat):Int)),(.int .u8 ((0:Nat):Int)),(.int .u8 ((0:Nat):Int)),(.int .u8 ((0:Nat):Int)),(.int .u8 ((0:Nat):Int)),(.int .u8 ((0:Nat):Int)),(.int .u8 ((0:Nat):Int)),(.int .u32 ((0:Nat):Int)),(.int .u32 ((0:Nat):Int)),(.int .u8 ((0:Nat):Int))] [(1,(4,(.t 45)))])) 13 true []),(.mk (gg 47 (.box 80 (.t 46))) 14 false []),(.mk (gm 9 47) 15 true [])]) (sr [gm 48 9,gm 49 6,gg 50 (.ia (.t 49) (xk .i64 4) 1),gg 51 (.ld (.t 50) none),gg 52 (.nil (.t 48)),gg 53 (.ffa (.t 52) 5),(G.mk none none (.st (.t 53) (.t 51) 1))] (sr [gm 54 9,gm 55 6,gg 56 (.ia (.t 55) (xk .i64 5) 1),gg 57 (.ld (.t 56) none),gg 58 (.nil (.t 54)),gg 59 (.ffa (.t 58) 6),(G.mk none none (.st (.t 59) (.t 57) 1))] (.seq (.drw [(.mk (gm 60 9) 0 true []),(.mk (gg 61 (.ld (.k (.pointer (some (Addr.mk 3 0 none)))) (some 0))) 1 true []),(.mk (gm 62 6) 2 true []),(.mk (gg 63 (.slq (.t 62) (some (xk .i64 6)) (some (xk .i64 14)) 1)) 3 true []),(.mk (gg 64 (.call 92 [(.t 61),(.t 63)])) 4 false []),(.mk (gg 65 (.nil (.t 60))) 5 true []),(.mk (gg 66 (.ffa (.t 65) 0)) 6 true []),(.mk (G.mk none none (.st (.t 66) (.t 64) 1)) 7 false [])]) (.seq (.drw [(.mk (gm 67 9) 0 true []),(.mk (gg 68 (.ld (.k (.pointer (some (Addr.mk 3 0 none)))) (some 0))) 1 true []),(.mk (gm 69 6) 2 true []),(.mk (gg 70 (.slq (.t 69) (some (xk .i64 14)) (some (xk .i64 18)) 1)) 3 true []),(.mk (gg 71 (.call 93 [(.t 68),(.t 70)])) 4 false []),(.mk (gg 72 (.nil (.t 67))) 5 true []),(.mk (gg 73 (.ffa (.t 72) 7)) 6 true []),(.mk (G.mk none none (.st (.t 73) (.t 71) 1)) 7 false [])]) (.seq (.drw [(.mk (gm 74 9) 0 true []),(.mk (gg 75 (.ld (.k (.pointer (some (Addr.mk 3 0 none)))) (some 0))) 1 true []),(.mk (gm 76 6) 2 true []),(.mk (gg 77 (.slq (.t 76) (some (xk .i64 18)) (some (xk .i64 22)) 1)) 3 true []),(.mk (gg 78 (.call 93 [(.t 75),(.t 77)])) 4 false []),(.mk (gg 79 (.nil (.t 74))) 5 true []),(.mk (gg 80 (.ffa (.t 79) 8)) 6 true []),(.mk (G.mk none none (.st (.t 80) (.t 78) 1)) 7 false [])]) (sr [gm 81 9,gm 82 6,gg 83 (.ia (.t 82) (xk .i64 26) 1),gg 84 (.ld (.t 83) none),gg 85 (.nil (.t 81)),gg 86 (.ffa (.t 85) 9),(G.mk none none (.st (.t 86) (.t 84) 1))] (sr [gm 87 9,gg 88 (.nil (.t 87)),gg 89 (.ffa (.t 88) 9),gg 90 (.ld (.t 89) none),gg 91 (.mks 5 1 1 [(.int .u8 ((0:Nat):Int))] (.t 90) (.t 90)),gm 10 91] (.cut (sr [gm 93 0,gg 94 (.nil (.t 93)),gg 95 (.ffa (.t 94) 0),gg 96 (.ld (.t 95) none),gm 97 10,gg 98 (.call 91 [(.t 96),(.t 97)]),gm 92 98,gg 99 (.ext (.t 92) 0),gg 100 (.ext (.t 92) 1),gm 8 100] (sr [gm 101 8,gg 102 (.inl true (.t 101))] (.cond (.t 102) (sr [gm 103 8,gg 2 (.mov (.k (.slice none 0 0))),gg 3 (.mov (.k (.slice none 0 0))),gg 4 (.mov (.k (.pointer none))),gm 5 103] .ret) .skip))) (sr [gg 104 (.bs0 74 1),gm 11 104] (.cut (sr [gm 105 10,gg 106 (.len false (.t 105)),gg 107 (.mov (xk .i64 0))] (.block 0 (.loop (sr [gg 108 (.bin .lss (.t 107) (.t 106))] (.seq (.cond (.t 108) .skip (.exit 0)) (.cut (.block 1 (sr [gg 109 (.ia (.t 105) (.t 107) 1),gg 110 (.ld (.t 109) none),gm 13 110] (sr [gm 111 13,gg 112 (.cvi .i64 (.t 111)),gg 113 (.mks 5 1 1 [(.int .u8 ((0:Nat):Int))] (.t 112) (.t 112)),gm 14 113] (.cut (sr [gm 115 0,gg 116 (.nil (.t 115)),gg 117 (.ffa (.t 116) 0),gg 118 (.ld (.t 117) none),gm 119 14,gg 120 (.call 91 [(.t 118),(.t 119)]),gm 114 120,gg 121 (.ext (.t 114) 0),gg 122 (.ext (.t 114) 1),gm 8 122] (sr [gm 123 8,gg 124 (.inl true (.t 123))] (.cond (.t 124) (sr [gm 125 8,gg 2 (.mov (.k (.slice none 0 0))),gg 3 (.mov (.k (.slice none 0 0))),gg 4 (.mov (.k (.pointer none))),gm 5 125] .ret) .skip))) (.reg [gm 126 11,gm 127 14,gg 128 (.bsl 74 1 1 [(.slice none 0 0)] [(0,(1,(.t 127)))]),gg 129 (.apx 74 1 24 (.t 126) (.t 128)),gm 11 129]))))) (.reg [gg 130 (.bin .add (.t 107) (xk .i64 1)),gm 107 130]))))))) (.cut (sr [gm 131 0,gg 132 (.nil (.t 131)),gg 133 (.ffa (.t 132) 3),gg 134 (.ld (.t 133) none)] (.cond (.t 134) (sr [gm 135 0,gm 136 6,gm 137 10,gm 138 11,gg 139 (.call 94 [(.t 135),(.t 136),(.t 137),(.t 138)]),gm 8 139] (sr [gm 140 8,gg 141 (.inl true (.t 140))] (.cond (.t 141) (sr [gm 142 8,gg 2 (.mov (.k (.slice none 0 0))),gg 3 (.mov (.k (.slice none 0 0))),gg 4 (.mov (.k (.pointer none))),gm 5 142] .ret) .skip))) .skip)) (sr [gm 143 11,gm 144 10,gm 145 9,gm 2 143,gm 3 144,gm 4 145,gg 5 (.mov (.k .nilIface))] .ret))))))))))))))))) 1 [(.t 2),(.t 3),(.t 4),(.t 5)]) := by kernel_rfl
theorem c55_:compF Tryz.prog 55 = some (.mk (sr [gg 8 (.mov (.k .nilIface))] (sr [gm 14 0,gg 15 (.call 53 [(.t 14)]),gm 9 15] (.cut (sr [gm 16 0,gm 17 3,gg 18 (.call 95 [(.t 16),(.t 17)]),gm 10 18] (sr [gm 19 10,gg 20 (.inl true (.t 19))] (.cond (.t 20) (sr [gm 21 10,gm 8 21] .ret) .skip))) (.cut (sr [gm 22 1,gg 23 (.len false (.t 22)),gg 24 (.mov (xk .i64 0))] (.block 0 (.loop (sr [gg 25 (.bin .lss (.t 24) (.t 23))] (.seq (.cond (.t 25) .skip (.exit 0)) (.cut (.block 1 (sr [gm 26 24,gg 27 (.ia (.t 22) (.t 24) 1),gg 28 (.ld (.t 27) none),gm 11 26,gm 12 28] (sr [gm 29 2,gm 30 11,gg 31 (.ia (.t 29) (.t 30) 1),gg 32 (.ld (.t 31) none),gm 13 32] (.cut (sr [gm 33 9,gg 34 (.nil (.t 33)),gg 35 (.ffa (.t 34) 2),gg 36 (.ld (.t 35) none)] (.cond (.t 36) (sr [gm 37 9,gm 38 13,gg 39 (.call 96 [(.t 37),(.t 38)])] (.exit 1)) .skip)) (sr [gm 40 9,gm 41 9,gg 42 (.nil (.t 41)),gg 43 (.ffa (.t 42) 1),gg 44 (.ld (.t 43) none),gm 45 12,gg 46 (.app 5 1 1 (.t 44) (.t 45)),gg 47 (.nil (.t 40)),gg 48 (.ffa (.t 47) 1),(G.mk none none (.st (.t 48) (.t 46) 1))] (.cut (sr [gm 49 13,gg 50 (.bin .eql (.t 49) (xk .u8 255))] (.cond (.t 50) (.exit 1) .skip)) (sr [gm 51 0,gm 52 3,gm 53 9,gg 54 (.nil (.t 53)),gg 55 (.ffa (.t 54) 1),gg 56 (.ld (.t 55) none),gg 57 (.call 97 [(.t 51),(.t 52),(.t 56)])] (.reg [gm 58 9,gg 59 (.nil (.t 58)),gg 60 (.ffa (.t 59) 1),(G.mk none none (.st (.t 60) (.k (.slice none 0 0)) 1))])))))))) (.reg [gg 61 (.bin .add (.t 24) (xk .i64 1)),gm 24 61]))))))) (sr [gm 62 0,gm 63 3,gg 64 (.call 85 [(.t 62),(.t 63)])] (sr [gg 8 (.mov (.k .nilIface))] .ret)))))) 4 [(.t 8)]) := by kernel_rfl
theorem c85_:compF Tryz.prog 85 = some (.mk (.cut (sr [gm 5 1,gg 6 (.nil (.t 5)),gg 7 (.ffa (.t 6) 9),gg 8 (.ld (.t 7) none),gg 9 (.bin .eql (.t 8) (xk .u8 0))] (.cond (.t 9) .ret .skip)) (sr [gm 10 0,gg 11 (.call 53 [(.t 10)]),gm 4 11] (sr [gm 12 4,gm 13 1,gg 14 (.nil (.t 13)),gg 15 (.ffa (.t 14) 8),gg 16 (.ld (.t 15) none),gg 17 (.nil (.t 12)),gg 18 (.ffa (.t 17) 3),(G.mk none none (.st (.t 18) (.t 16) 1))] (.reg [gm 19 4,gg 20 (.nil (.t 19)),gg 21 (.ffa (.t 20) 4),(G.mk none none (.st (.t 21) (.k (.bool true)) 1))])))) 2 []) := by kernel_rfl
theorem c90_:compF Tryz.prog 90 = some (.mk (sr [gg 4 (.mov (.k (.pointer none))),gg 5 (.mov (.k (.pointer none))),gg 6 (.mov (.k .nilIface))] (.cut (sr [gm 10 0,gg 11 (.inl false (.t 10))] (.cond (.t 11) (.seq (.drw [(.mk (gg 12 (.ld (.k (.pointer (some (Addr.mk 4 0 none)))) none)) 0 true []),(.mk (gg 4 (.mov (.k (.pointer none)))) 1 true []),(.mk (gg 5 (.mov (.k (.pointer none)))) 2 true []),(.mk (gm 6 12) 3 true [])]) .ret) .skip)) (sr [gm 13 0,gg 14 (.call 119 []),gm 15 1,gg 16 (.bld [(.slice none 0 0),(.slice none 0 0),(.bool false),(.int .u32 ((0:Nat):Int)),(.bool false)] []),gg 17 (.box 125 (.t 16)),gg 18 (.bld [.nilIface,(.int .i64 ((0:Nat):Int)),(.pointer none),(.bool false),(.pointer none),(.pointer none)] [(0,(1,(.t 13))),(2,(1,(.t 14))),(3,(1,(.t 15))),(4,(1,(.t 17)))]),gg 19 (.box 162 (.t 18)),gm 7 19] (sr [gm 21 7,gg 22 (.call 120 [(.t 21)]),gm 20 22,gg 23 (.ext (.t 20) 0),gg 24 (.ext (.t 20) 1),gm 8 23,gm 9 24] (.cut (sr [gm 25 9,gg 26 (.inl true (.t 25))] (.cond (.t 26) (sr [gm 27 9,gg 4 (.mov (.k (.pointer none))),gg 5 (.mov (.k (.pointer none))),gm 6 27] .ret) .skip)) (sr [gm 28 7,gm 29 8,gm 4 28,gm 5 29,gg 6 (.mov (.k .nilIface))] .ret)))))) 2 [(.t 4),(.t 5),(.t 6)]) := by kernel_rfl
theorem c91_:compF Tryz.prog 91 = some (.mk (sr [gg 4 (.mov (xk .i64 0)),gg 5 (.mov (.k .nilIface))] (sr [gm 6 0,gm 7 1,gm 8 1,gg 9 (.len false (.t 8)),gg 10 (.call 121 [(.t 6),(.t 7),(.t 9)]),gg 11 (.ext (.t 10) 0),gg 12 (.ext (.t 10) 1),gm 4 11,gm 5 12] .ret)) 2 [(.t 4),(.t 5)]) := by kernel_rfl
theorem c92_:compF Tryz.prog 92 = some (.mk (sr [gg 2 (.box 172 (.t 0)),gg 4 (.mov (xk .u64 0))] (sr [gm 5 1,gg 6 (.ia (.t 5) (xk .i64 7) 1),gg 7 (.ld (.t 6) none)] (.seq (.drw [(.mk (gm 8 1) 0 true []),(.mk (gg 9 (.ia (.t 8) (xk .i64 0) 1)) 1 true []),(.mk (gg 10 (.ld (.t 9) none)) 2 true []),(.mk (gg 11 (.cvi .u64 (.t 10))) 3 true []),(.mk (gm 12 1) 4 true []),(.mk (gg 13 (.ia (.t 12) (xk .i64 1) 1)) 5 true []),(.mk (gg 14 (.ld (.t 13) none)) 6 true []),(.mk (gg 15 (.cvi .u64 (.t 14))) 7 true []),(.mk (gg 16 (.bik .shl .u64 (.t 15) 8)) 8 true []),(.mk (gg 17 (.bin .or (.t 11) (.t 16))) 9 true []),(.mk (gm 18 1) 10 true []),(.mk (gg 19 (.ia (.t 18) (xk .i64 2) 1)) 11 true []),(.mk (gg 20 (.ld (.t 19) none)) 12 true []),(.mk (gg 21 (.cvi .u64 (.t 20))) 13 true []),(.mk (gg 22 (.bik .shl .u64 (.t 21) 16)) 14 true []),(.mk (gg 23 (.bin .or (.t 17) (.t 22))) 15 true []),(.mk (gm 24 1) 16 true []),(.mk (gg 25 (.ia (.t 24) (xk .i64 3) 1)) 17 true []),(.mk (gg 26 (.ld (.t 25) none)) 18 true []),(.mk (gg 27 (.cvi .u64 (.t 26))) 19 true []),(.mk (gg 28 (.bik .shl .u64 (.t 27) 24)) 20 true []),(.mk (gg 29 (.bin .or (.t 23) (.t 28))) 21 true []),(.mk (gm 30 1) 22 true []),(.mk (gg 31 (.ia (.t 30) (xk .i64 4) 1)) 23 true []),(.mk (gg 32 (.ld (.t 31) none)) 24 true []),(.mk (gg 33 (.cvi .u64 (.t 32))) 25 true []),(.mk (gg 34 (.bik .shl .u64 (.t 33) 32)) 26 true []),(.mk (gg 35 (.bin .or (.t 29) (.t 34))) 27 true []),(.mk (gm 36 1) 28 true []),(.mk (gg 37 (.ia (.t 36) (xk .i64 5) 1)) 29 true []),(.mk (gg 38 (.ld (.t 37) none)) 30 true []),(.mk (gg 39 (.cvi .u64 (.t 38))) 31 true []),(.mk (gg 40 (.bik .shl .u64 (.t 39) 40)) 32 true []),(.mk (gg 41 (.bin .or (.t 35) (.t 40))) 33 true []),(.mk (gm 42 1) 34 true []),(.mk (gg 43 (.ia (.t 42) (xk .i64 6) 1)) 35 true []),(.mk (gg 44 (.ld (.t 43) none)) 36 true []),(.mk (gg 45 (.cvi .u64 (.t 44))) 37 true []),(.mk (gg 46 (.bik .shl .u64 (.t 45) 48)) 38 true []),(.mk (gg 47 (.bin .or (.t 41) (.t 46))) 39 true []),(.mk (gm 48 1) 40 true []),(.mk (gg 49 (.ia (.t 48) (xk .i64 7) 1)) 41 true []),(.mk (gg 50 (.ld (.t 49) none)) 42 true []),(.mk (gg 51 (.cvi .u64 (.t 50))) 43 true []),(.mk (gg 52 (.bik .shl .u64 (.t 51) 56)) 44 true []),(.mk (gg 53 (.bin .or (.t 47) (.t 52))) 45 true []),(.mk (gm 4 53) 46 true [])]) .ret))) 2 [(.t 4)]) := by kernel_rfl
theorem c93_:compF Tryz.prog 93 = some (.mk (sr [gg 2 (.box 172 (.t 0)),gg 4 (.mov (xk .u32 0))] (sr [gm 5 1,gg 6 (.ia (.t 5) (xk .i64 3) 1),gg 7 (.ld (.t 6) none)] (.seq (.drw [(.mk (gm 8 1) 0 true []),(.mk (gg 9 (.ia (.t 8) (xk .i64 0) 1)) 1 true []),(.mk (gg 10 (.ld (.t 9) none)) 2 true []),(.mk (gg 11 (.cvi .u32 (.t 10))) 3 true []),(.mk (gm 12 1) 4 true []),(.mk (gg 13 (.ia (.t 12) (xk .i64 1) 1)) 5 true []),(.mk (gg 14 (.ld (.t 13) none)) 6 true []),(.mk (gg 15 (.cvi .u32 (.t 14))) 7 true []),(.mk (gg 16 (.bik .shl .u64 (.t 15) 8)) 8 true []),(.mk (gg 17 (.bin .or (.t 11) (.t 16))) 9 true []),(.mk (gm 18 1) 10 true []),(.mk (gg 19 (.ia (.t 18) (xk .i64 2) 1)) 11 true []),(.mk (gg 20 (.ld (.t 19) none)) 12 true []),(.mk (gg 21 (.cvi .u32 (.t 20))) 13 true []),(.mk (gg 22 (.bik .shl .u64 (.t 21) 16)) 14 true []),(.mk (gg 23 (.bin .or (.t 17) (.t 22))) 15 true []),(.mk (gm 24 1) 16 true []),(.mk (gg 25 (.ia (.t 24) (xk .i64 3) 1)) 17 true []),(.mk (gg 26 (.ld (.t 25) none)) 18 true []),(.mk (gg 27 (.cvi .u32 (.t 26))) 19 true []),(.mk (gg 28 (.bik .shl .u64 (.t 27) 24)) 20 true []),(.mk (gg 29 (.bin .or (.t 23) (.t 28))) 21 true []),(.mk (gm 4 29) 22 true [])]) .ret))) 2 [(.t 4)]) := by kernel_rfl
theorem c94_:compF Tryz.prog 94 = some (.mk (sr [gg 4 (.box 68 (.t 0)),gg 8 (.mov (.k .nilIface))] (sr [gg 9 (.alc 22 [(.int .u32 ((0:Nat):Int))])] (sr [gg 16 (.mkf 122 [(.t 9),(.t 4)]),gm 10 16] (.cut (sr [gm 17 1,gg 18 (.len false (.t 17)),gg 19 (.mov (xk .i64 0))] (.block 0 (.loop (sr [gg 20 (.bin .lss (.t 19) (.t 18))] (.seq (.cond (.t 20) .skip (.exit 0)) (.cut (.block 1 (sr [gm 21 19,gm 11 21] (.cut (sr [gm 22 11,gg 23 (.bin .geq (.t 22) (xk .i64 22)),gm 24 23,gq 25 24 true (.mov (.t 11)),gq 26 24 true (.bin .lss (.t 25) (xk .i64 26)),gg 27 (.pick (.t 24) (.t 26) (.k (.bool false)))] (.cond (.t 27) (sr [gm 28 10,gg 29 (.clc (.t 28) [(xk .u8 0)])] (.exit 1)) .skip)) (.reg [gm 30 10,gm 31 1,gm 32 11,gg 33 (.ia (.t 31) (.t 32) 1),gg 34 (.ld (.t 33) none),gg 35 (.clc (.t 30) [(.t 34)])])))) (.reg [gg 36 (.bin .add (.t 19) (xk .i64 1)),gm 19 36]))))))) (.cut (sr [gm 37 2,gg 38 (.len false (.t 37)),gg 39 (.mov (xk .i64 0))] (.block 2 (.loop (sr [gg 40 (.bin .lss (.t 39) (.t 38))] (.seq (.cond (.t 40) .skip (.exit 2)) (.seq (.block 3 (sr [gg 41 (.ia (.t 37) (.t 39) 1),gg 42 (.ld (.t 41) none),gm 13 42] (.reg [gm 43 10,gm 44 13,gg 45 (.clc (.t 43) [(.t 44)])]))) (.reg [gg 46 (.bin .add (.t 39) (xk .i64 1)),gm 39 46]))))))) (.cut (sr [gm 47 3,gg 48 (.len false (.t 47)),gg 49 (.mov (xk .i64 0))] (.block 4 (.loop (sr [gg 50 (.bin .lss (.t 49) (.t 48))] (.seq (.cond (.t 50) .skip (.exit 4)) (.cut (.block 5 (sr [gm 51 49,gm 14 51] (sr [gm 52 3,gm 53 14,gg 54 (.ia (.t 52) (.t 53) 1),gg 55 (.ld (.t 54) none),gg 56 (.len false (.t 55)),gg 57 (.mov (xk .i64 0))] (.block 6 (.loop (sr [gg 58 (.bin .lss (.t 57) (.t 56))] (.seq (.cond (.t 58) .skip (.exit 6)) (.seq (.block 7 (sr [gm 59 57,gm 15 59] (.reg [gm 60 10,gm 61 3,gm 62 14,gg 63 (.ia (.t 61) (.t 62) 1),gg 64 (.ld (.t 63) none),gm 65 15,gg 66 (.ia (.t 64) (.t 65) 1),gg 67 (.ld (.t 66) none),gg 68 (.clc (.t 60) [(.t 67)])]))) (.reg [gg 69 (.bin .add (.t 57) (xk .i64 1)),gm 57 69]))))))))) (.reg [gg 70 (.bin .add (.t 49) (xk .i64 1)),gm 49 70]))))))) (.cut (.seq (.drw [(.mk (gg 71 (.ld (.k (.pointer (some (Addr.mk 3 0 none)))) (some 0))) 0 true []),(.mk (gm 72 1) 1 true []),(.mk (gg 73 (.slq (.t 72) (some (xk .i64 22)) (some (xk .i64 26)) 1)) 2 true []),(.mk (gg 75 (.ld (.t 9) none)) 4 true []),(.mk (gg 74 (.call 93 [(.t 71),(.t 73)])) 3 false [4]),(.mk (gg 76 (.bin .neq (.t 74) (.t 75))) 5 true [])]) (.cond (.t 76) (sr [gg 77 (.ld (.k (.pointer (some (Addr.mk 5 0 none)))) none),gm 8 77] .ret) .skip)) (sr [gg 8 (.mov (.k .nilIface))] .ret)))))))) 4 [(.t 8)]) := by kernel_rfl
theorem c95_:compF Tryz.prog 95 = some (.mk (sr [gg 4 (.mov (.k .nilIface))] (sr [gm 8 0,gg 9 (.call 53 [(.t 8)]),gm 5 9] (sr [gm 10 1,gg 11 (.nil (.t 10)),gg 12 (.ffa (.t 11) 6),gg 13 (.ld (.t 12) none),gg 14 (.bin .and (.t 13) (xk .u8 1)),gg 15 (.bin .neq (.t 14) (xk .u8 0)),gm 6 15] (.seq (.drw [(.mk (gm 16 5) 0 true []),(.mk (gg 17 (.nil (.t 16))) 1 true []),(.mk (gg 18 (.ffa (.t 17) 4)) 2 true []),(.mk (gg 19 (.ld (.t 18) none)) 3 true []),(.mk (gg 20 (.un .not (.t 19))) 4 true []),(.mk (gm 21 20) 5 true []),(.mk (gq 22 21 false (.mov (.t 1))) 6 true []),(.mk (gq 23 21 false (.nil (.t 22))) 7 true []),(.mk (gq 24 21 false (.ffa (.t 23) 8)) 8 true []),(.mk (gq 25 21 false (.ld (.t 24) none)) 9 true []),(.mk (gq 26 21 false (.mov (.t 5))) 10 true []),(.mk (gq 27 21 false (.nil (.t 26))) 11 true []),(.mk (gq 28 21 false (.ffa (.t 27) 3)) 12 true []),(.mk (gq 29 21 false (.ld (.t 28) none)) 13 true []),(.mk (gq 30 21 false (.bin .add (.t 29) (xk .u32 1))) 14 true []),(.mk (gq 31 21 false (.bin .eql (.t 25) (.t 30))) 15 true []),(.mk (gg 32 (.pick (.t 21) (.k (.bool true)) (.t 31))) 16 true []),(.mk (gm 7 32) 17 true [])]) (.cut (sr [gm 33 5,gg 34 (.nil (.t 33)),gg 35 (.ffa (.t 34) 2),gg 36 (.ld (.t 35) none),gm 37 36,gq 38 37 true (.mov (.t 6)),gq 39 37 true (.un .not (.t 38)),gg 40 (.pick (.t 37) (.t 39) (.k (.bool false)))] (.cond (.t 40) (.reg [gm 41 5,gg 42 (.nil (.t 41)),gg 43 (.ffa (.t 42) 2),(G.mk none none (.st (.t 43) (.k (.bool false)) 1))]) .skip)) (.cut (sr [gm 44 5,gg 45 (.nil (.t 44)),gg 46 (.ffa (.t 45) 1),gg 47 (.ld (.t 46) none),gg 48 (.len false (.t 47)),gg 49 (.bin .neq (.t 48) (xk .i64 0))] (.cond (.t 49) (.cut (sr [gm 50 6,gg 51 (.un .not (.t 50)),gm 52 51,gq 53 52 false (.mov (.t 7)),gq 54 52 false (.un .not (.t 53)),gg 55 (.pick (.t 52) (.k (.bool true)) (.t 54))] (.cond (.t 55) (sr [gg 56 (.ld (.k (.pointer (some (Addr.mk 1 0 none)))) none),gm 4 56] .ret) .skip)) (sr [gg 4 (.mov (.k .nilIface))] .ret)) .skip)) (.cut (sr [gm 57 6] (.cond (.t 57) (.reg [gm 58 5,gg 59 (.nil (.t 58)),gg 60 (.ffa (.t 59) 2),(G.mk none none (.st (.t 60) (.k (.bool true)) 1))]) .skip)) (sr [gg 4 (.mov (.k .nilIface))] .ret)))))))) 2 [(.t 4)]) := by kernel_rfl
theorem c97_:compF Tryz.prog 97 = some (.mk (sr [gm 7 1,gg 8 (.nil (.t 7)),gg 9 (.ld (.t 8) (some 10)),gg 6 (.alc 80 [(.int .u64 ((0:Nat):Int)),(.int .u8 ((0:Nat):Int)),(.int .u8 ((0:Nat):Int)),(.int .u8 ((0:Nat):Int)),(.int .u8 ((0:Nat):Int)),(.int .u8 ((0:Nat):Int)),(.int .u8 ((0:Nat):Int)),(.int .u32 ((0:Nat):Int)),(.int .u32 ((0:Nat):Int)),(.int .u8 ((0:Nat):Int))]),(G.mk none none (.st (.t 6) (.t 9) 10))] (.drw [(.mk (gm 10 0) 0 true []),(.mk (gm 12 0) 2 true []),(.mk (gm 17 2) 7 true []),(.mk (gg 11 (.call 53 [(.t 10)])) 1 false []),(.mk (gg 13 (.call 53 [(.t 12)])) 3 false []),(.mk (gg 14 (.nil (.t 13))) 4 true []),(.mk (gg 15 (.ffa (.t 14) 0)) 5 true []),(.mk (gg 16 (.ld (.t 15) none)) 6 true []),(.mk (gg 18 (.app 5 1 1 (.k (.slice none 0 0)) (.t 17))) 8 false [6]),(.mk (gg 19 (.bld [(.slice none 0 0),(.pointer none)] [(0,(1,(.t 18))),(1,(1,(.t 6)))])) 9 true []),(.mk (gg 20 (.bsl 127 2 1 [(.slice none 0 0),(.pointer none)] [(0,(2,(.t 19)))])) 10 false [6]),(.mk (gg 21 (.apx 127 2 32 (.t 16) (.t 20))) 11 false []),(.mk (gg 22 (.nil (.t 11))) 12 true []),(.mk (gg 23 (.ffa (.t 22) 0)) 13 true []),(.mk (G.mk none none (.st (.t 23) (.t 21) 1)) 14 false [])])) 3 []) := by kernel_rfl
theorem c119_:compF Tryz.prog 119 = some (.mk (sr [gg 0 (.mov (.k (.pointer none)))] (sr [gg 1 (.ala 208 [(.int .u32 ((0:Nat):Int)),(.int .u32 ((0:Nat):Int)),(.int .u32 ((0:Nat):Int)),(.int .u32 ((0:Nat):Int)),(.int .u32 ((0:Nat):Int)),(.int .u32 ((0:Nat):Int)),(.int .u32 ((0:Nat):Int)),(.int .u32 ((0:Nat):Int)),(.int .u32 ((0:Nat):Int)),(.int .u32 ((0:Nat):Int)),(.int .u32 ((0:Nat):Int)),(.int .u32 ((0:Nat):Int)),(.int .u32 ((0:Nat):Int)),(.int .u32 ((0:Nat):Int)),(.int .u32 ((0:Nat):Int)),(.int .u32 ((0:Nat):Int)),(.int .u32 ((0:Nat):Int)),(.int .u32 ((0:Nat):Int)),(.int .u32 ((0:Nat):Int)),(.int .u32 ((0:Nat):Int)),(.int .u32 ((0:Nat):Int)),(.int .u32 ((0:Nat):Int)),(.int .u32 ((0:Nat):Int)),(.int .u32 ((0:Nat):Int)),(.int .u32 ((0:Nat):Int)),(.int .u32 ((0:Nat):Int)),(.int .u32 ((0:Nat):Int)),(.int .u32 ((0:Nat):Int)),(.int .u32 ((0:Nat):Int)),(.int .u32 ((0:Nat):Int)),(.int .u32 ((0:Nat):Int)),(.int .u32 ((0:Nat):Int)),(.int .u32 ((0:Nat):Int)),(.int .u32 ((0:Nat):Int)),(.int .u32 ((0:Nat):Int)),(.int .u32 ((0:Nat):Int)),(.int .u32 ((0:Nat):Int)),(.int .u32 ((0:Nat):Int)),(.int .u32 ((0:Nat):Int)),(.int .u32 ((0:Nat):Int)),(.int .u32 ((0:Nat):Int)),(.int .u32 ((0:Nat):Int)),(.int .u32 ((0:Nat):Int)),(.int .u32 ((0:Nat):Int)),(.int .u32 ((0:Nat):Int)),(.int .u32 ((0:Nat):Int)),(.int .u32 ((0:Nat):Int)),(.int .u32 ((0:Nat):Int)),(.int .u32 ((0:Nat):Int)),(.int .u32 ((0:Nat):Int)),(.int .u32 ((0:Nat):Int)),(.int .u32 ((0:Nat):Int)),(.int .u32 ((0:Nat):Int)),(.int .u32 ((0:Nat):Int)),(.int .u32 ((0:Nat):Int)),(.int .u32 ((0:Nat):Int)),(.int .u32 ((0:Nat):Int)),(.int .u32 ((0:Nat):Int)),(.int .u32 ((0:Nat):Int)),(.int .u32 ((0:Nat):Int)),(.int .u32 ((0:Nat):Int)),(.int .u32 ((0:Nat):Int)),(.int .u32 ((0:Nat):Int)),(.int .u32 ((0:Nat):Int)),(.int .u32 ((0:Nat):Int)),(.int .u32 ((0:Nat):Int)),(.int .u32 ((0:Nat):Int)),(.int .u32 ((0:Nat):Int)),(.int .u32 ((0:Nat):Int)),(.int .u32 ((0:Nat):Int)),(.int .u32 ((0:Nat):Int)),(.int .u32 ((0:Nat):Int)),(.int .u32 ((0:Nat):Int)),(.int .u32 ((0:Nat):Int)),(.int .u32 ((0:Nat):Int)),(.int .u32 ((0:Nat):Int)),(.int .u32 ((0:Nat):Int)),(.int .u32 ((0:Nat):Int)),(.int .u32 ((0:Nat):Int)),(.int .u32 ((0:Nat):Int)),(.int .u32 ((0:Nat):Int)),(.int .u32 ((0:Nat):Int)),(.int .u32 ((0:Nat):Int)),(.int .u32 ((0:Nat):Int)),(.int .u32 ((0:Nat):Int)),(.int .u32 ((0:Nat):Int)),(.int .u32 ((0:Nat):Int)),(.int .u32 ((0:Nat):Int)),(.int .u32 ((0:Nat):Int)),(.int .u32 ((0:Nat):Int)),(.int .u32 ((0:Nat):Int)),(.int .u32 ((0:Nat):Int)),(.int .u32 ((0:Nat):Int)),(.int .u32 ((0:Nat):Int)),(.int .u32 ((0:Nat):Int)),(.int .u32 ((0:Nat):Int)),(.int .u32 ((0:Nat):Int)),(.int .u32 ((0:Nat):Int)),(.int .u32 ((0:Nat):Int)),(.int .u32 ((0:Nat):Int)),(.int .u32 ((0:Nat):Int)),(.int .u32 ((0:Nat):Int)),(.int .u32 ((0:Nat):Int)),(.int .u32 ((0:Nat):Int)),(.int .u32 ((0:Nat):Int)),(.int .u32 ((0:Nat):Int)),(.int .u32 ((0:Nat):Int)),(.int .u32 ((0:Nat):Int)),(.int .u32 ((0:Nat):Int)),(.int .u32 ((0:Nat):Int)),(.int .u32 ((0:Nat):Int)),(.int .u32 ((0:Nat):Int)),(.int .u32 ((0:Nat):Int)),(.int .u32 ((0:Nat):Int)),(.int .u32 ((0:Nat):Int)),(.int .u32 ((0:Nat):Int)),(.int .u32 ((0:Nat):Int)),(.int .u32 ((0:Nat):Int)),(.int .u32 ((0:Nat):Int)),(.int .u32 ((0:Nat):Int)),(.int .u32 ((0:Nat):Int)),(.int .u32 ((0:Nat):Int)),(.int .u32 ((0:Nat):Int)),(.int .u32 ((0:Nat):Int)),(.int .u32 ((0:Nat):Int)),(.int .u32 ((0:Nat):Int)),(.int .u32 ((0:Nat):Int)),(.int .u32 ((0:Nat):Int)),(.int .u32 ((0:Nat):Int)),(.int .u32 ((0:Nat):Int)),(.int .u32 ((0:Nat):Int)),(.int .u32 ((0:Nat):Int)),(.int .u32 ((0:Nat):Int)),(.int .u32 ((0:Nat):Int)),(.int .u32 ((0:Nat):Int)),(.int .u32 ((0:Nat):Int)),(.int .u32 ((0:Nat):Int)),(.int .u32 ((0:Nat):Int)),(.int .u32 ((0:Nat):Int)),(.int .u32 ((0:Nat):Int)),(.int .u32 ((0:Nat):Int)),(.int .u32 ((0:Nat):Int)),(.int .u32 ((0:Nat):Int)),(.int .u32 ((0:Nat):Int)),(.int .u32 ((0:Nat):Int)),(.int .u32 ((0:Nat):Int)),(.int .u32 ((0:Nat):Int)),(.int .u32 ((0:Nat):Int)),(.int .u32 ((0:Nat):Int)),(.int .u32 ((0:Nat):Int)),(.int .u32 ((0:Nat):Int)),(.int .u32 ((0:Nat):Int)),(.int .u32 ((0:Nat):Int)),(.int .u32 ((0:Nat):Int)),(.int .u32 ((0:Nat):Int)),(.int .u32 ((0:Nat):Int)),(.int .u32 ((0:Nat):Int)),(.int .u32 ((0:Nat):Int)),(.int .u32 ((0:Nat):Int)),(.int .u32 ((0:Nat):Int)),(.int .u32 ((0:Nat):Int)),(.int .u32 ((0:Nat):Int)),(.int .u32 ((0:Nat):Int)),(.int .u32 ((0:Nat):Int)),(.int .u32 ((0:Nat):Int)),(.int .u32 ((0:Nat):Int)),(.int .u32 ((0:Nat):Int)),(.int .u32 ((0:Nat):Int)),(.int .u32 ((0:Nat):Int)),(.int .u32 ((0:Nat):Int)),(.int .u32 ((0:Nat):Int)),(.int .u32 ((0:Nat):Int)),(.int .u32 ((0:Nat):Int)),(.int .u32 ((0:Nat):Int)),(.int .u32 ((0:Nat):Int)),(.int .u32 ((0:Nat):Int)),(.int .u32 ((0:Nat):Int)),(.int .u32 ((0:Nat):Int)),(.int .u32 ((0:Nat):Int)),(.int .u32 ((0:Nat):Int)),(.int .u32 ((0:Nat):Int)),(.int .u32 ((0:Nat):Int)),(.int .u32 ((0:Nat):Int)),(.int .u32 ((0:Nat):Int)),(.int .u32 ((0:Nat):Int)),(.int .u32 ((0:Nat):Int)),(.int .u32 ((0:Nat):Int)),(.int .u32 ((0:Nat):Int)),(.int .u32 ((0:Nat):Int)),(.int .u32 ((0:Nat):Int)),(.int .u32 ((0:Nat):Int)),(.int .u32 ((0:Nat):Int)),(.int .u32 ((0:Nat):Int)),(.int .u32 ((0:Nat):Int)),(.int .u32 ((0:Nat):Int)),(.int .u32 ((0:Nat):Int)),(.int .u32 ((0:Nat):Int)),(.int .u32 ((0:Nat):Int)),(.int .u32 ((0:Nat):Int)),(.int .u32 ((0:Nat):Int)),(.int .u32 ((0:Nat):Int)),(.int .u32 ((0:Nat):Int)),(.int .u32 ((0:Nat):Int)),(.int .u32 ((0:Nat):Int)),(.int .u32 ((0:Nat):Int)),(.int .u32 ((0:Nat):Int)),(.int .u32 ((0:Nat):Int)),(.int .u32 ((0:Nat):Int)),(.int .u32 ((0:Nat):Int)),(.int .u32 ((0:Nat):Int)),(.int .u32 ((0:Nat):Int)),(.int .u32 ((0:Nat):Int)),(.int .u32 ((0:Nat):Int)),(.int .u32 ((0:Nat):Int)),(.int .u32 ((0:Nat):Int)),(.int .u32 ((0:Nat):Int)),(.int .u32 ((0:Nat):Int)),(.int .u32 ((0:Nat):Int)),(.int .u32 ((0:Nat):Int)),(.int .u32 ((0:Nat):Int)),(.int .u32 ((0:Nat):Int)),(.int .u32 ((0:Nat):Int)),(.int .u32 ((0:Nat):Int)),(.int .u32 ((0:Nat):Int)),(.int .u32 ((0:Nat):Int)),(.int .u32 ((0:Nat):Int)),(.int .u32 ((0:Nat):Int)),(.int .u32 ((0:Nat):Int)),(.int .u32 ((0:Nat):Int)),(.int .u32 ((0:Nat):Int)),(.int .u32 ((0:Nat):Int)),(.int .u32 ((0:Nat):Int)),(.int .u32 ((0:Nat):Int)),(.int .u32 ((0:Nat):Int)),(.int .u32 ((0:Nat):Int)),(.int .u32 ((0:Nat):Int)),(.int .u32 ((0:Nat):Int)),(.int .u32 ((0:Nat):Int)),(.int .u32 ((0:Nat):Int)),(.int .u32 ((0:Nat):Int)),(.int .u32 ((0:Nat):Int)),(.int .u32 ((0:Nat):Int)),(.int .u32 ((0:Nat):Int)),(.int .u32 ((0:Nat):Int)),(.int .u32 ((0:Nat):Int)),(.int .u32 ((0:Nat):Int)),(.int .u32 ((0:Nat):Int)),(.int .u32 ((0:Nat):Int)),(.int .u32 ((0:Nat):Int)),(.int .u32 ((0:Nat):Int)),(.int .u32 ((0:Nat):Int)),(.int .u32 ((0:Nat):Int)),(.int .u32 ((0:Nat):Int)),(.int .u32 ((0:Nat):Int)),(.int .u32 ((0:Nat):Int)),(.int .u32 ((0:Nat):Int))])] (.cut (sr [gg 4 (.mov (xk .u32 0))] (.block 0 (.loop (sr [gg 5 (.bin .lss (.t 4) (xk .u32 256))] (.seq (.cond (.t 5) .skip (.exit 0)) (.cut (.block 1 (sr [gm 6 4,gm 2 6] (sr [gm 7 2,gg 8 (.bik .shl .u64 (.t 7) 24),gm 3 8] (sr [gg 9 (.mov (xk .i64 0))] (.block 2 (.loop (sr [gg 10 (.bin .lss (.t 9) (xk .i64 8))] (.seq (.cond (.t 10) .skip (.exit 2)) (.cut (.block 3 (.cut (sr [gm 11 3,gg 12 (.bin .and (.t 11) (xk .u32 2147483648)),gg 13 (.bin .neq (.t 12) (xk .u32 0))] (.cond (.t 13) (.reg [gm 14 3,gg 15 (.bik .shl .u64 (.t 14) 1),gg 16 (.bin .xor (.t 15) (xk .u32 79764919)),gm 3 16]) (.reg [gm 17 3,gg 18 (.bik .shl .u64 (.t 17) 1),gm 3 18]))) (.reg [gm 19 2,gm 20 3,gg 21 (.iaa (.t 1) (.t 19) 1 256),(G.mk none none (.st (.t 21) (.t 20) 1))]))) (.reg [gg 22 (.bin .add (.t 9) (xk .i64 1)),gm 9 22])))))))))) (.reg [gg 23 (.bin .add (.t 4) (xk .u32 1)),gm 4 23]))))))) (sr [gm 0 1] .ret)))) 0 [(.t 0)]) := by kernel_rfl
theorem c120_:compF Tryz.prog 120 = some (.mk (sr [gg 2 (.mov (.k (.pointer none))),gg 3 (.mov (.k .nilIface))] (sr [gm 9 0,gg 10 (.call 30 [(.t 9)]),gm 8 10,gg 11 (.ext (.t 8) 0),gg 12 (.ext (.t 8) 1),gg 13 (.ext (.t 8) 2),gm 4 11,gm 5 12,gm 6 13] (.cut (sr [gm 14 6,gg 15 (.inl true (.t 14))] (.cond (.t 15) (sr [gm 16 6,gg 2 (.mov (.k (.pointer none))),gm 3 16] .ret) .skip)) (sr [gm 18 5,gm 19 4,gg 20 (.call 132 [(.t 18),(.t 19)]),gm 17 20,gg 21 (.ext (.t 17) 0),gg 22 (.ext (.t 17) 1),gm 7 21,gm 6 22] (.cut (sr [gm 23 6,gg 24 (.inl true (.t 23))] (.cond (.t 24) (sr [gm 25 6,gg 2 (.mov (.k (.pointer none))),gm 3 25] .ret) .skip)) (.cut (sr [gm 26 0,gm 27 7,gm 28 4,gg 29 (.call 133 [(.t 26),(.t 27),(.t 28)]),gm 6 29] (sr [gm 30 6,gg 31 (.inl true (.t 30))] (.cond (.t 31) (sr [gm 32 6,gg 2 (.mov (.k (.pointer none))),gm 3 32] .ret) .skip))) (sr [gm 33 7,gm 2 33,gg 3 (.mov (.k .nilIface))] .ret))))))) 1 [(.t 2),(.t 3)]) := by kernel_rfl
theorem c121_:compF Tryz.prog 121 = some (.mk (sr [gg 6 (.mov (xk .i64 0)),gg 7 (.mov (.k .nilIface))] (.cut (sr [gm 9 1,gg 10 (.len false (.t 9)),gm 11 2,gg 12 (.bin .lss (.t 10) (.t 11))] (.cond (.t 12) (.seq (.drw [(.mk (gg 13 (.ld (.k (.pointer (some (Addr.mk 7 0 none)))) none)) 0 true []),(.mk (gg 6 (.mov (xk .i64 0))) 1 true []),(.mk (gm 7 13) 2 true [])]) .ret) .skip)) (.cut (.block 0 (.loop (.seq (sr [gm 14 6,gm 15 2,gg 16 (.bin .lss (.t 14) (.t 15)),gm 17 16,gq 18 17 true (.mov (.t 7)),gq 19 17 true (.inl false (.t 18)),gg 20 (.pick (.t 17) (.t 19) (.k (.bool false)))] (.cond (.t 20) .skip (.exit 0))) (.block 1 (sr [gg 8 (.mov (xk .i64 0))] (.seq (.drw [(.mk (gm 22 0) 0 true []),(.mk (gm 23 1) 1 true []),(.mk (gm 24 6) 2 true []),(.mk (gg 25 (.slq (.t 23) (some (.t 24)) none 1)) 3 true []),(.mk (gg 26 (.mkm "Read" (.t 22))) 4 true []),(.mk (gg 27 (.nil (.t 26))) 5 true []),(.mk (gm 28 22) 6 true []),(.mk (gg 29 (.inv (.t 28) "Read" [(.t 25)])) 7 false []),(.mk (gm 21 29) 8 true []),(.mk (gg 30 (.ext (.t 21) 0)) 9 true []),(.mk (gg 31 (.ext (.t 21) 1)) 10 true []),(.mk (gm 8 30) 11 true []),(.mk (gm 7 31) 12 true [])]) (.reg [gm 32 6,gm 33 8,gg 34 (.bin .add (.t 32) (.t 33)),gm 6 34]))))))) (.cut (sr [gm 35 6,gm 36 2,gg 37 (.bin .geq (.t 35) (.t 36))] (.cond (.t 37) (.reg [gg 7 (.mov (.k .nilIface))]) (sr [gm 38 6,gg 39 (.bin .gtr (.t 38) (xk .i64 0)),gm 40 39,gq 41 40 true (.mov (.t 7)),gq 42 40 true (.ld (.k (.pointer (some (Addr.mk 0 0 none)))) none),gq 43 40 true (.ieq 71 false (.t 41) (.t 42)),gg 44 (.pick (.t 40) (.t 43) (.k (.bool false)))] (.cond (.t 44) (.reg [gg 45 (.ld (.k (.pointer (some (Addr.mk 1 0 none)))) none),gm 7 45]) .skip)))) .ret)))) 3 [(.t 6),(.t 7)]) := by kernel_rfl
theorem c122_:compF Tryz.prog 122 = some (.mk (.drw [(.mk (gg 4 (.ld (.t 1) none)) 0 true []),(.mk (gg 5 (.bik .shl .u64 (.t 4) 8)) 1 true []),(.mk (gg 6 (.ld (.t 2) none)) 2 true []),(.mk (gg 7 (.nil (.t 6))) 3 true []),(.mk (gg 8 (.ffa (.t 7) 2)) 4 true []),(.mk (gg 9 (.ld (.t 8) none)) 5 true []),(.mk (gg 10 (.ld (.t 1) none)) 6 true []),(.mk (gg 11 (.bik .shr .u64 (.t 10) 24)) 7 true []),(.mk (gg 12 (.cvi .u8 (.t 11))) 8 true []),(.mk (gm 13 0) 9 true []),(.mk (gg 14 (.bin .xor (.t 12) (.t 13))) 10 true []),(.mk (gg 15 (.nil (.t 9))) 11 true []),(.mk (gg 16 (.iaa (.t 15) (.t 14) 1 256)) 12 true []),(.mk (gg 17 (.ld (.t 16) none)) 13 true []),(.mk (gg 18 (.bin .xor (.t 5) (.t 17))) 14 true []),(.mk (G.mk none none (.st (.t 1) (.t 18) 1)) 15 false [])]) 3 []) := by kernel_rfl
theorem c132_:compF Tryz.prog 132 = some (.mk (sr [gg 4 (.mov (.k (.pointer none))),gg 5 (.mov (.k .nilIface))] (.cut (sr [gm 7 0,gg 8 (.nil (.t 7)),gg 9 (.ffa (.t 8) 1),gg 10 (.sll (.t 9) none 1 4),gg 11 (.b2s (.t 10)),gg 12 (.bin .neq (.t 11) (.k (.string (ByteArray.mk #[79,103,103,83]))))] (.cond (.t 12) (.seq (.drw [(.mk (gg 13 (.ld (.k (.pointer (some (Addr.mk 8 0 none)))) none)) 0 true []),(.mk (gg 4 (.mov (.k (.pointer none)))) 1 true []),(.mk (gm 5 13) 2 true [])]) .ret) .skip)) (.cut (sr [gm 14 0,gg 15 (.nil (.t 14)),gg 16 (.ffa (.t 15) 6),gg 17 (.ld (.t 16) none),gg 18 (.bin .neq (.t 17) (xk .u8 2))] (.cond (.t 18) (.seq (.drw [(.mk (gg 19 (.ld (.k (.pointer (some (Addr.mk 9 0 none)))) none)) 0 true []),(.mk (gg 4 (.mov (.k (.pointer none)))) 1 true []),(.mk (gm 5 19) 2 true [])]) .ret) .skip)) (.cut (sr [gm 20 1,gg 21 (.len false (.t 20)),gg 22 (.bin .lss (.t 21) (xk .i64 19))] (.cond (.t 22) (.seq (.drw [(.mk (gg 23 (.ld (.k (.pointer (some (Addr.mk 10 0 none)))) none)) 0 true []),(.mk (gg 4 (.mov (.k (.pointer none)))) 1 true []),(.mk (gm 5 23) 2 true [])]) .ret) .skip)) (.cut (sr [gm 24 1,gg 25 (.slc (.t 24) none (some (xk .i64 8)) 1),gg 26 (.b2s (.t 25)),gm 6 26] (sr [gm 27 6,gg 28 (.bin .neq (.t 27) (.k (.string (ByteArray.mk #[79,112,117,115,72,101,97,100]))))] (.cond (.t 28) (.seq (.drw [(.mk (gg 29 (.ld (.k (.pointer (some (Addr.mk 11 0 none)))) none)) 0 true []),(.mk (gg 4 (.mov (.k (.pointer none)))) 1 true []),(.mk (gm 5 29) 2 true [])]) .ret) .skip))) (.seq (.drw [(.mk (gm 30 1) 0 true []),(.mk (gg 31 (.ia (.t 30) (xk .i64 8) 1)) 1 true []),(.mk (gg 32 (.ld (.t 31) none)) 2 true []),(.mk (gm 33 1) 3 true []),(.mk (gg 34 (.ia (.t 33) (xk .i64 9) 1)) 4 true []),(.mk (gg 35 (.ld (.t 34) none)) 5 true []),(.mk (gg 36 (.ld (.k (.pointer (some (Addr.mk 3 0 none)))) (some 0))) 6 true []),(.mk (gm 37 1) 7 true []),(.mk (gg 38 (.slq (.t 37) (some (xk .i64 10)) (some (xk .i64 12)) 1)) 8 true []),(.mk (gg 40 (.ld (.k (.pointer (some (Addr.mk 3 0 none)))) (some 0))) 10 true []),(.mk (gm 41 1) 11 true []),(.mk (gg 42 (.slq (.t 41) (some (xk .i64 12)) (some (xk .i64 16)) 1)) 12 true []),(.mk (gg 44 (.ld (.k (.pointer (some (Addr.mk 3 0 none)))) (some 0))) 14 true []),(.mk (gm 45 1) 15 true []),(.mk (gg 46 (.slq (.t 45) (some (xk .i64 16)) (some (xk .i64 18)) 1)) 16 true []),(.mk (gm 48 1) 18 true []),(.mk (gg 49 (.ia (.t 48) (xk .i64 18) 1)) 19 true []),(.mk (gg 50 (.ld (.t 49) none)) 20 true []),(.mk (gg 39 (.call 141 [(.t 36),(.t 38)])) 9 false [20,14,10,5,2]),(.mk (gg 43 (.call 93 [(.t 40),(.t 42)])) 13 false [20,14,5,2]),(.mk (gg 47 (.call 141 [(.t 44),(.t 46)])) 17 false [20,5,2]),(.mk (gg 51 (.bld [(.int .u8 ((0:Nat):Int)),(.int .u8 ((0:Nat):Int)),(.int .u16 ((0:Nat):Int)),(.int .u16 ((0:Nat):Int)),(.int .u32 ((0:Nat):Int)),(.int .u8 ((0:Nat):Int))] [(5,(1,(.t 32))),(1,(1,(.t 35))),(3,(1,(.t 39))),(4,(1,(.t 43))),(2,(1,(.t 47))),(0,(1,(.t 50)))])) 21 true []),(.mk (gg 52 (.box 105 (.t 51))) 22 false []),(.mk (gm 4 52) 23 true []),(.mk (gg 5 (.mov (.k .nilIface))) 24 true [])]) .ret)))))) 2 [(.t 4),(.t 5)]) := by kernel_rfl
theorem c133_:compF Tryz.prog 133 = some (.mk (sr [gg 6 (.mov (.k .nilIface))] (sr [gm 7 1,gg 8 (.nil (.t 7)),gg 9 (.ffa (.t 8) 0),gg 10 (.ld (.t 9) none)] (.block 0 (sr [gg 15 (.bin .eql (.t 10) (xk .u8 0)),gm 14 15] (.cond (.t 14) (.cut (sr [gm 16 2,gg 17 (.len false (.t 16)),gg 18 (.bin .neq (.t 17) (xk .i64 19))] (.cond (.t 18) (sr [gg 19 (.ld (.k (.pointer (some (Addr.mk 10 0 none)))) none),gm 6 19] .ret) .skip)) (sr [gm 20 0,gg 21 (.nil (.t 20)),gg 22 (.ffa (.t 21) 5),(G.mk none none (.st (.t 22) (.k (.pointer none)) 1))] (sr [gg 6 (.mov (.k .nilIface))] .ret))) (.cut (sr [gg 24 (.bin .eql (.t 10) (xk .u8 1)),gm 23 24] (.cond (.t 23) .skip (sr [gg 25 (.bin .eql (.t 10) (xk .u8 2)),gm 23 25] (.cond (.t 23) .skip (.reg [gg 26 (.bin .eql (.t 10) (xk .u8 255)),gm 23 26]))))) (.cond (.t 23) (sr [gm 27 0,gm 28 1,gm 29 2,gg 30 (.call 142 [(.t 27),(.t 28),(.t 29)]),gm 6 30] .ret) (sr [gg 32 (.bin .eql (.t 10) (xk .u8 3)),gm 31 32] (.cond (.t 31) (sr [gm 33 0,gm 34 1,gm 35 2,gg 36 (.call 143 [(.t 33),(.t 34),(.t 35)]),gm 6 36] .ret) (sr [gm 11 0,gg 12 (.nil (.t 11)),gg 13 (.ffa (.t 12) 5),(G.mk none none (.st (.t 13) (.k (.pointer none)) 1))] (sr [gg 6 (.mov (.k .nilIface))] .ret))))))))))) 3 [(.t 6)]) := by kernel_rfl
theorem c141_:compF Tryz.prog 141 = some (.mk (sr [gg 2 (.box 172 (.t 0)),gg 4 (.mov (xk .u16 0))] (sr [gm 5 1,gg 6 (.ia (.t 5) (xk .i64 1) 1),gg 7 (.ld (.t 6) none)] (.seq (.drw [(.mk (gm 8 1) 0 true []),(.mk (gg 9 (.ia (.t 8) (xk .i64 0) 1)) 1 true []),(.mk (gg 10 (.ld (.t 9) none)) 2 true []),(.mk (gg 11 (.cvi .u16 (.t 10))) 3 true []),(.mk (gm 12 1) 4 true []),(.mk (gg 13 (.ia (.t 12) (xk .i64 1) 1)) 5 true []),(.mk (gg 14 (.ld (.t 13) none)) 6 true []),(.mk (gg 15 (.cvi .u16 (.t 14))) 7 true []),(.mk (gg 16 (.bik .shl .u64 (.t 15) 8)) 8 true []),(.mk (gg 17 (.bin .or (.t 11) (.t 16))) 9 true []),(.mk (gm 4 17) 10 true [])]) .ret))) 2 [(.t 4)]) := by kernel_rfl
theorem c142_:compF Tryz.prog 142 = some (.mk (sr [gg 6 (.mov (.k .nilIface))] (sr [gm 8 1,gg 9 (.nil (.t 8)),gg 10 (.ffa (.t 9) 1),gg 11 (.ld (.t 10) none),gg 12 (.cvi .i64 (.t 11)),gg 13 (.bin .add (xk .i64 21) (.t 12)),gm 7 13] (.cut (sr [gm 14 2,gg 15 (.len false (.t 14)),gm 16 7,gg 17 (.bin .neq (.t 15) (.t 16))] (.cond (.t 17) (sr [gg 18 (.ld (.k (.pointer (some (Addr.mk 10 0 none)))) none),gm 6 18] .ret) .skip)) (.seq (.drw [(.mk (gm 19 0) 0 true []),(.mk (gm 20 2) 1 true []),(.mk (gg 21 (.ia (.t 20) (xk .i64 19) 1)) 2 true []),(.mk (gg 22 (.ld (.t 21) none)) 3 true []),(.mk (gm 23 2) 4 true []),(.mk (gg 24 (.ia (.t 23) (xk .i64 20) 1)) 5 true []),(.mk (gg 25 (.ld (.t 24) none)) 6 true []),(.mk (gm 26 2) 7 true []),(.mk (gg 27 (.slq (.t 26) (some (xk .i64 21)) none 1)) 8 true []),(.mk (gg 28 (.app 5 1 1 (.k (.slice none 0 0)) (.t 27))) 9 false [6,3]),(.mk (gg 29 (.bld [(.int .u8 ((0:Nat):Int)),(.int .u8 ((0:Nat):Int)),(.slice none 0 0),(.slice none 0 0)] [(0,(1,(.t 22))),(1,(1,(.t 25))),(2,(1,(.t 28)))])) 10 true []),(.mk (gg 30 (.box 102 (.t 29))) 11 false []),(.mk (gg 31 (.nil (.t 19))) 12 true []),(.mk (gg 32 (.ffa (.t 31) 5)) 13 true []),(.mk (G.mk none none (.st (.t 32) (.t 30) 1)) 14 false [])]) (sr [gg 6 (.mov (.k .nilIface))] .ret))))) 3 [(.t 6)]) := by kernel_rfl
theorem c164_:compF Tryz.prog 164 = some (.mk (sr [gg 4 (.mov (xk .i64 0)),gg 5 (.mov (.k .nilIface))] (.cut (sr [gm 7 0,gg 8 (.nil (.t 7)),gg 9 (.ffa (.t 8) 0),gg 10 (.ld (.t 9) none),gg 11 (.len false (.t 10)),gg 12 (.bin .eql (.t 11) (xk .i64 0))] (.cond (.t 12) (.seq (.drw [(.mk (gg 13 (.ld (.k (.pointer (some (Addr.mk 0 0 none)))) none)) 0 true []),(.mk (gg 4 (.mov (xk .i64 0))) 1 true []),(.mk (gm 5 13) 2 true [])]) .ret) .skip)) (sr [gm 14 1,gm 15 0,gg 16 (.nil (.t 15)),gg 17 (.ffa (.t 16) 0),gg 18 (.ld (.t 17) none),gg 19 (.cpy 1 (.t 14) (.t 18)),gm 6 19] (sr [gm 20 0,gm 21 0,gg 22 (.nil (.t 21)),gg 23 (.ffa (.t 22) 0),gg 24 (.ld (.t 23) none),gm 25 6,gg 26 (.slq (.t 24) (some (.t 25)) none 1),gg 27 (.nil (.t 20)),gg 28 (.ffa (.t 27) 0),(G.mk none none (.st (.t 28) (.t 26) 1))] (sr [gm 29 6,gm 4 29,gg 5 (.mov (.k .nilIface))] .ret))))) 2 [(.t 4),(.t 5)]) := by kernel_rfl
end Go.Proofs.YtokkphocaloelaaGreatDoor

end
section
namespace Go.Proofs.YtokkphocaloelaaGreatDoor
open Go Go.Vc
set_option maxRecDepth 100000
set_option maxHeartbeats 8000000

def opR (b:ByteArray):Option PkS := if (stR b).2 = false ∨ (stR b).1.length ≤ 1 then none else packsP ((stR b).1.drop 1)
theorem stR_wt (b:ByteArray):wts (stR b).1 ≤ b.size ∧ ∀ p ∈ (stR b).1,p.fits := by
 unfold stR
 split
 · exact ⟨Nat.zero_le _,fun _ h => nomatch h⟩
 · exact oggR_wt b
theorem oggPacketsW (w0:World) {b:ByteArray} (hs:b.size ≤ 1099511627776):CallsA Tryz.prog w0 11 [.c (.val (.string b))] [] fun r H => match opR b with
   | none => ∃ k,r = .t [.c (.val (.slice none 0 0)),.c (.val (.slice none 0 0)),.c (.val (.int .i64 ((k:Nat):Int))),.c (.val (.int .i64 ((2:Nat):Int)))] ∧ H = []
   | some s => r = .t [.c (pkV 0 s.l),.c (pkV 1 s.l),.c (.val (.int .i64 ((if s.go = true then 1 else 0:Nat):Int))),.c (.val (.int .i64 ((1:Nat):Int)))] ∧ H = pkH s.l := by
 have hst := streamW w0 hs
 have hw := stR_wt b
 obtain ⟨F,hF⟩:∃ F,F = opR b := ⟨_,rfl⟩
 rw [← hF]
 unfold opR at hF
 generalize stR b = st at hst hw hF
 obtain ⟨ps,ok⟩ := st
 simp only at hst hw hF
 refine callsA_of_ev c11_ ?_
 conv => whnf
 refine cL0 hst ?_
 rintro _ _ (⟨rfl,rfl,rfl⟩ | ⟨rfl,o,n,cc,hn,ho,rfl,rfl⟩)
 · rw [if_pos (.inl rfl)] at hF
   subst hF
   conv => whnf
   refine Or.inl ?_
   conv => whnf
   refine ⟨fun _ => ?_,fun g => zT g⟩
   conv => whnf
   exact Or.inr ⟨[],.t [.c (.val (.slice none 0 0)),.c (.val (.slice none 0 0)),.c (.val (.int .i64 ((0:Nat):Int))),.c (.val (.int .i64 ((2:Nat):Int)))],[],⟨rfl,trivial,rfl⟩,rfl,0,rfl,rfl⟩
 · cases ps with
   | nil => cases hn
   | cons p0 pr =>
     conv => whnf
     refine Or.inl ?_
     conv => whnf
     refine ⟨fun g => zF g,fun _ => ?_⟩
     conv => whnf
     refine ⟨fun g1 => ?_,fun g1 => ?_⟩
     · have g1:n = 0 := beq_t (b := 0) g1
       rw [if_pos (.inr (by rw [hn]; omega))] at hF
       subst hF
       conv => whnf
       exact Or.inr ⟨[],.t [.c (.val (.slice none 0 0)),.c (.val (.slice none 0 0)),.c (.val (.int .i64 ((0:Nat):Int))),.c (.val (.int .i64 ((2:Nat):Int)))],[],⟨rfl,trivial,rfl⟩,rfl,0,rfl,rfl⟩
     have g1:n ≠ 0 := beq_f (b := 0) g1
     obtain rfl:o = 1 := by omega
     rw [if_neg (by rintro (h | h); exact Bool.noConfusion h; omega)] at hF
     conv => whnf
     refine CallsA.lift (H0 := [pgsB 1 (p0 :: pr),famB (p0 :: pr)]) [0,1] rfl ⟨rfl,rfl,rfl,rfl,trivial⟩ rfl (packetsOfW w0 (p0 :: pr) (o := 1) (n := n) (cc := cc) (by rw [hn]; omega) (by omega) (by omega) hw.2) ?_
     intro r H hrH
     rw [← hF] at hrH
     cases F with
     | none =>
       obtain ⟨rfl,rfl⟩ := hrH
       conv => whnf
       refine Or.inl ?_
       conv => whnf
       refine ⟨fun _ => ?_,fun g => zT g⟩
       conv => whnf
       exact Or.inr ⟨[],.t [.c (.val (.slice none 0 0)),.c (.val (.slice none 0 0)),.c (.val (.int .i64 ((1:Nat):Int))),.c (.val (.int .i64 ((2:Nat):Int)))],[],⟨rfl,trivial,rfl⟩,rfl,1,rfl,rfl⟩
     | some s =>
       obtain ⟨rfl,rfl⟩ := hrH
       obtain ⟨op,go,pl⟩ := s
       cases pl with
       | nil =>
         cases go with
         | true =>
           conv => whnf
           refine Or.inl ?_
           conv => whnf
           refine ⟨fun _ => ?_,fun g => zT g⟩
           conv => whnf
           exact Or.inr ⟨[],.t [.c (.val (.slice none 0 0)),.c (.val (.slice none 0 0)),.c (.val (.int .i64 ((1:Nat):Int))),.c (.val (.int .i64 ((1:Nat):Int)))],[],⟨rfl,trivial,rfl⟩,rfl,rfl,rfl⟩
         | false =>
           conv => whnf
           refine Or.inl ?_
           conv => whnf
           refine ⟨fun g => zF g,fun _ => ?_⟩
           conv => whnf
           exact Or.inr ⟨[],.t [.c (.val (.slice none 0 0)),.c (.val (.slice none 0 0)),.c (.val (.int .i64 ((0:Nat):Int))),.c (.val (.int .i64 ((1:Nat):Int)))],[],⟨rfl,trivial,rfl⟩,rfl,rfl,rfl⟩
       | cons y ys =>
         cases go with
         | true =>
           conv => whnf
           refine Or.inl ?_
           conv => whnf
           refine ⟨fun _ => ?_,fun g => zT g⟩
           conv => whnf
           exact Or.inr ⟨[2,3],.t [.c (pkV 0 (y :: ys)),.c (pkV 1 (y :: ys)),.c (.val (.int .i64 ((1:Nat):Int))),.c (.val (.int .i64 ((1:Nat):Int)))],pkH (y :: ys),⟨rfl,⟨rfl,rfl,rfl,rfl,trivial⟩,rfl⟩,rfl,rfl,rfl⟩
         | false =>
           conv => whnf
           refine Or.inl ?_
           conv => whnf
           refine ⟨fun g => zF g,fun _ => ?_⟩
           conv => whnf
           exact Or.inr ⟨[2,3],.t [.c (pkV 0 (y :: ys)),.c (pkV 1 (y :: ys)),.c (.val (.int .i64 ((0:Nat):Int))),.c (.val (.int .i64 ((1:Nat):Int)))],pkH (y :: ys),⟨rfl,⟨rfl,rfl,rfl,rfl,trivial⟩,rfl⟩,rfl,rfl,rfl⟩
end Go.Proofs.YtokkphocaloelaaGreatDoor

end
section
namespace Go.Vc
open Go.RowKit (Below)

def kill:List Blk → List Blk → Prop
 | [],[] => True
 | .dead :: r,_ :: r1 => kill r r1
 | k :: r,k1 :: r1 => k = k1 ∧ kill r r1
 | _,_ => False
def wake:List Blk → List Blk → List Blk → List Blk
 | .dead :: r,k1 :: r1,_ :: r' => k1 :: wake r r1 r'
 | _ :: r,_ :: r1,k' :: r' => k' :: wake r r1 r'
 | _,_,r' => r'
theorem kill_spec:∀ {Hd H:List Blk},kill Hd H → Hd.length = H.length ∧ ∀ (b:Nat) k,Hd[b]? = some k → k = .dead ∨ H[b]? = some k
 | [],[],_ => ⟨rfl,fun b k h => by simp at h⟩
 | [],_ :: _,h => by simp [kill] at h
 | k :: r,[],h => by cases k <;> simp [kill] at h
 | k :: r,k1 :: r1,h => by
   have key:(k = .dead ∨ k = k1) ∧ kill r r1 := by
     cases k with
     | dead => exact ⟨.inl rfl,h⟩
     | cells T cs => exact ⟨.inr h.1,h.2⟩
     | vec wr T e bs wd xs => exact ⟨.inr h.1,h.2⟩
     | fam T e wd xss => exact ⟨.inr h.1,h.2⟩
   obtain ⟨h1,h2⟩ := kill_spec key.2
   refine ⟨by simp [h1],fun b q hb => ?_⟩
   cases b with
   | zero =>
     simp at hb
     subst hb
     rcases key.1 with h | h
     · exact .inl h
     · exact .inr (by simp [h])
   | succ b => simpa using h2 b q (by simpa using hb)
theorem wake_spec:∀ {Hd H H':List Blk},Hd.length = H.length → Hd.length ≤ H'.length → (wake Hd H H').length = H'.length ∧ ∀ (b:Nat) k,(wake Hd H H')[b]? = some k →
   (b < Hd.length ∧ Hd[b]? = some .dead ∧ H[b]? = some k) ∨ (Hd[b]? ≠ some .dead ∧ H'[b]? = some k)
 | [],H,H',_,_ => ⟨rfl,fun b k h => .inr ⟨by simp,h⟩⟩
 | _ :: _,[],_,h,_ => by simp at h
 | _ :: _,_ :: _,[],_,h => by simp at h
 | k0 :: r,k1 :: r1,k2 :: r2,hl,hl' => by
   obtain ⟨h1,h2⟩ := wake_spec (Hd := r) (H := r1) (H' := r2) (by simpa using hl) (by simpa using hl')
   cases hd:k0.live with
   | false =>
     obtain rfl:k0 = .dead := by cases k0 <;> first | rfl | cases hd
     refine ⟨by simp [wake,h1],fun b k hb => ?_⟩
     cases b with
     | zero => exact .inl ⟨by simp,rfl,by simpa [wake] using hb⟩
     | succ b =>
       rcases h2 b k (by simpa [wake] using hb) with ⟨a,c,d⟩ | ⟨a,c⟩
       · exact .inl ⟨by simpa using a,by simpa using c,by simpa using d⟩
       · exact .inr ⟨by simpa using a,by simpa using c⟩
   | true =>
     have hw:wake (k0 :: r) (k1 :: r1) (k2 :: r2) = k2 :: wake r r1 r2 := by cases k0 <;> first | rfl | cases hd
     rw [hw]
     refine ⟨by simp [h1],fun b k hb => ?_⟩
     cases b with
     | zero => exact .inr ⟨fun h => by simp at h; rw [h] at hd; exact Bool.noConfusion hd,by simpa using hb⟩
     | succ b =>
       rcases h2 b k (by simpa using hb) with ⟨a,c,d⟩ | ⟨a,c⟩
       · exact .inl ⟨by simpa using a,by simpa using c,by simpa using d⟩
       · exact .inr ⟨by simpa using a,by simpa using c⟩
theorem CallsA.wake {P:Program} {w0:World} {f:FuncId} {args:List A1} {Hd H:List Blk} {Rd R:AV → List Blk → Prop} (hk:kill Hd H) (h:CallsA P w0 f args Hd Rd) (hR:∀ r H',Rd r H' → R r (Go.Vc.wake Hd H H')):CallsA P w0 f args H R := by
 obtain ⟨k1,k2⟩ := kill_spec hk
 refine ⟨h.cal,fun ρ w vs hRH hA => ?_⟩
 have hget:∀ (b:Nat) k,Hd[b]? = some k → k.live = true → H[b]? = some k := fun b k hb hl => by
   rcases k2 b k hb with rfl | h
   · cases hl
   · exact h
 have hR0:RH w0 ρ Hd w := ⟨by rw [hRH.len,k1],fun b k e hb he => (k2 b k hb).elim (fun h => h ▸ trivial) (fun h => hRH.ok b k e h he),fun b b' k k' g hb hb' l l' a a' => hRH.inj b b' k k' g (hget b k hb l) (hget b' k' hb' l') l l' a a',fun g ⟨b,k,hb,hl,hg⟩ => hRH.lo g ⟨b,k,hget b k hb hl,hl,hg⟩,hRH.base⟩
 have himg0:∀ g,image ρ Hd g → image ρ H g := fun g ⟨b,k,hb,hl,hg⟩ => ⟨b,k,hget b k hb hl,hl,hg⟩
 refine (h.out ρ w vs hR0 hA).mono fun e w' he => ?_
 obtain ⟨r,H',ρ',v,hr,rfl,hv,hRH',⟨t,rfl⟩,hfr,himg⟩ := he
 have hlt:Hd.length ≤ H'.length := by
   have := hRH'.len
   have := hR0.len
   simp at *
   omega
 obtain ⟨w1,w2⟩ := wake_spec k1 hlt
 -- a block that was kept
 have hkeep:∀ (b:Nat) k,b < Hd.length → Hd[b]? = some .dead → H[b]? = some k → k.live = true → ∀ g,Ren.own (ρ ++ t) b g → ρ.own b g ∧ ¬ image ρ Hd g ∧ g < w.heap.size := by
   intro b k hb hd hk hl g hg
   rw [own_append (by rw [hRH.len,← k1]; exact hb)] at hg
   refine ⟨hg,fun ⟨b',k',hb',hl',hg'⟩ => ?_,(hRH.lo g ⟨b,k,hk,hl,hg⟩).2⟩
   have := hRH.inj b b' k k' g hk (hget b' k' hb' hl') hl hl' hg hg'
   subst this
   rw [hd] at hb'
   cases hb'
   cases hl'
 refine ⟨r,_,ρ ++ t,v,hR r H' hr,rfl,hv,⟨by rw [w1]; exact hRH'.len,fun b k e hb he => ?_,fun b b' k k' g hb hb' l l' a a' => ?_,fun g hg => ?_,hRH'.base⟩,⟨t,rfl⟩,⟨hfr.1,hfr.2.1,hfr.2.2.1,hfr.2.2.2.1,fun i hi hn => hfr.2.2.2.2 i hi fun him => hn (himg0 i him)⟩,fun g hg => ?_⟩
 · rcases w2 b k hb with ⟨a,c,d⟩ | ⟨_,c⟩
   · have hbl:b < ρ.length := by rw [hRH.len,← k1]; exact a
     rw [List.getElem?_append_left hbl] at he
     cases hl:k.live with
     | false =>
       obtain rfl:k = .dead := by cases k <;> first | rfl | cases hl
       trivial
     | true =>
       refine ((hRH.ok b k e d he).keep fun g hg _ => ?_).more t
       obtain ⟨h1,h2,h3⟩ := hkeep b k a c d hl g (by rw [own_append hbl]; exact own_of he hg)
       exact hfr.2.2.2.2 g h3 h2
   · exact hRH'.ok b k e c he
 · rcases w2 b k hb with ⟨a1,c1,d1⟩ | ⟨_,c1⟩ <;> rcases w2 b' k' hb' with ⟨a2,c2,d2⟩ | ⟨_,c2⟩
   · obtain ⟨o1,_,_⟩ := hkeep b k a1 c1 d1 l g a
     obtain ⟨o2,_,_⟩ := hkeep b' k' a2 c2 d2 l' g a'
     exact hRH.inj b b' k k' g d1 d2 l l' o1 o2
   · obtain ⟨_,o2,o3⟩ := hkeep b k a1 c1 d1 l g a
     rcases himg g ⟨b',k',c2,l',a'⟩ with h | h
     · exact absurd h o2
     · omega
   · obtain ⟨_,o2,o3⟩ := hkeep b' k' a2 c2 d2 l' g a'
     rcases himg g ⟨b,k,c1,l,a⟩ with h | h
     · exact absurd h o2
     · omega
   · exact hRH'.inj b b' k k' g c1 c2 l l' a a'
 · obtain ⟨b,k,hb,hl,hg⟩ := hg
   rcases w2 b k hb with ⟨a,c,d⟩ | ⟨_,c⟩
   · obtain ⟨o1,_,o3⟩ := hkeep b k a c d hl g hg
     exact ⟨(hRH.lo g ⟨b,k,d,hl,o1⟩).1,Nat.lt_of_lt_of_le o3 hfr.2.2.2.1⟩
   · exact hRH'.lo g ⟨b,k,c,hl,hg⟩
 · obtain ⟨b,k,hb,hl,hg⟩ := hg
   rcases w2 b k hb with ⟨a,c,d⟩ | ⟨_,c⟩
   · exact .inl ⟨b,k,d,hl,(hkeep b k a c d hl g hg).1⟩
   · rcases himg g ⟨b,k,c,hl,hg⟩ with h | h
     · exact .inl (himg0 g h)
     · exact .inr h
theorem CallsA.liftK {P:Program} {w0:World} {f:FuncId} {args0 args:List A1} {H0 H:List Blk} {R0 R:AV → List Blk → Prop} (σ:List Nat) (Hd:List Blk) (hk:kill Hd H) (hσn:nodupB σ = true) (hemb:embH σ Hd H0 σ) (hargs:args0.map (A1.ren σ) = args) (h:CallsA P w0 f args0 H0 R0)
   (hR:∀ r0 H0',R0 r0 H0' → R (r0.ren (widen σ Hd H0')) (Go.Vc.wake Hd H (putAll σ (H0'.map (Blk.ren (widen σ Hd H0'))) Hd))):CallsA P w0 f args H R :=
 CallsA.wake (Rd := fun r H' => ∃ r0 H0',R0 r0 H0' ∧ r = r0.ren (widen σ Hd H0') ∧ H' = putAll σ (H0'.map (Blk.ren (widen σ Hd H0'))) Hd) hk
   (CallsA.lift σ hσn hemb hargs h fun r0 H0' hr => ⟨r0,H0',hr,rfl,rfl⟩) (by
     rintro _ _ ⟨r0,H0',hr,rfl,rfl⟩
     exact hR r0 H0' hr)
theorem CallsA.ghost {P:Program} {w0:World} {f:FuncId} {args:List A1} {H H1:List Blk} {R:AV → List Blk → Prop} (hg:Ghost w0 H H1) (h:CallsA P w0 f args H1 R):CallsA P w0 f args H R := by
 refine ⟨h.cal,fun ρ w vs hRH hA => ?_⟩
 obtain ⟨t,h1,h2⟩ := hg ρ w hRH
 refine (h.out (ρ ++ t) w vs h1 (hA.mono fun _ _ => A1.R.more t)).mono fun e w' he => ?_
 obtain ⟨r,H',ρ',v,hr,rfl,hv,hRH',⟨u,rfl⟩,hfr,himg⟩ := he
 exact ⟨r,H',_,v,hr,rfl,hv,hRH',⟨t ++ u,by rw [List.append_assoc]⟩,⟨hfr.1,hfr.2.1,hfr.2.2.1,hfr.2.2.2.1,fun i hi hn => hfr.2.2.2.2 i hi fun him => hn (h2 i him)⟩,fun g hgi => (himg g hgi).imp (h2 g) id⟩
theorem Ghost.empty {w0:World} {H:List Blk} (b:Nat) {α β:Type} {wr:Bool} {T:TypeId} {e:Enc α} {bs:List Nat} {wd:Nat} (e2:Enc β) (bs2:List Nat) (hb:H[b]? = some (.vec wr T e bs wd [])) (h2:∀ x,(e2.f bs2 x).length = wd) :
   Ghost w0 H (H.set b (.vec wr T e2 bs2 wd ([]:List β))) := fun ρ w h => by
 have hlt:b < H.length := (List.getElem?_eq_some_iff.1 hb).1
 have hget:∀ (i:Nat) k,(H.set b (.vec wr T e2 bs2 wd ([]:List β)))[i]? = some k → (i = b ∧ k = .vec wr T e2 bs2 wd ([]:List β)) ∨ (i ≠ b ∧ H[i]? = some k) := by
   intro i k hi
   by_cases hib:i = b
   · subst hib
     rw [List.getElem?_set_self hlt] at hi
     exact .inl ⟨rfl,(Option.some.inj hi).symm⟩
   · rw [List.getElem?_set_ne (fun h => hib h.symm)] at hi
     exact .inr ⟨hib,hi⟩
 have hold:∀ (i:Nat) k,(H.set b (.vec wr T e2 bs2 wd ([]:List β)))[i]? = some k → k.live = true → ∃ k0,H[i]? = some k0 ∧ k0.live = true := by
   intro i k hi hl
   rcases hget i k hi with ⟨rfl,rfl⟩ | ⟨_,h⟩
   · exact ⟨_,hb,rfl⟩
   · exact ⟨k,h,hl⟩
 have himg:∀ g,image ρ (H.set b (.vec wr T e2 bs2 wd ([]:List β))) g → image ρ H g := fun g ⟨i,k,hi,hl,hg⟩ => by
   obtain ⟨k0,a,c⟩ := hold i k hi hl
   exact ⟨i,k0,a,c,hg⟩
 have key:RH w0 ρ (H.set b (.vec wr T e2 bs2 wd ([]:List β))) w := by
   refine ⟨by rw [List.length_set]; exact h.len,fun i k en hi he => ?_,fun i i' k k' g hi hi' l l' a a' => ?_,fun g hg => h.lo g (himg g hg),h.base⟩
   · rcases hget i k hi with ⟨rfl,rfl⟩ | ⟨_,h1⟩
     · obtain ⟨r0,_,r2⟩ := h.ok i _ en hb he
       refine ⟨r0,h2,?_⟩
       rcases r2 with ⟨q1,_,q3⟩ | ⟨g,arr,fz,q1,q2,q3,_,q5,⟨sp,q6,q7⟩,q8⟩
       · exact .inl ⟨q1,rfl,q3⟩
       · exact .inr ⟨g,arr,fz,q1,q2,q3,Nat.zero_le _,q5,⟨sp,q6,q7⟩,q8⟩
     · exact h.ok i k en h1 he
   · obtain ⟨k0,a1,a2⟩ := hold i k hi l
     obtain ⟨k0',b1,b2⟩ := hold i' k' hi' l'
     exact h.inj i i' k0 k0' g a1 b1 a2 b2 a a'
 exact ⟨[],by rw [List.append_nil]; exact key,fun g hg => by rw [List.append_nil] at hg; exact himg g hg⟩
end Go.Vc

end
section
namespace Go.Proofs.YtokkphocaloelaaGreatDoor
open Go Go.Vc
set_option maxRecDepth 100000
set_option maxHeartbeats 8000000

structure Errs (w0:World) (t:TypeId) (v:Nat → Value):Prop where
 get:∀ k,k < 12 → k ≠ 3 → k ≠ 6 → w0.cell? (Addr.mk k 0 none) = some (.iface t (v k))
 eq0:∀ k,k < 12 → k ≠ 3 → k ≠ 6 → ieqOf Tryz.prog w0 71 (.iface t (v k)) (.iface t (v 0)) (decide (k = 0))
 nil0:ieqOf Tryz.prog w0 71 .nilIface (.iface t (v 0)) false
def rowB (l:List Int):Blk := .vec true 5 (encI .u8) [] 1 l
def datB (l:List Int):Blk := .vec false 5 (encI .u8) [] 1 l
theorem byt_at {l:List Int} (h:Byt l) {i:Nat} (hi:i < l.length):∃ a:Nat,l[i]? = some (a:Int) ∧ a < 256 := by
 have hx := h l[i] (List.getElem_mem hi)
 exact ⟨l[i].toNat,by rw [List.getElem?_eq_getElem hi]; congr 1; omega,by omega⟩
theorem lorS {x y s:Nat} (hx:x < 2 ^ s):x ||| y * 2 ^ s = x + y * 2 ^ s := by
 rw [Nat.or_comm,Nat.mul_comm y,← Nat.two_pow_add_eq_or_of_lt hx,Nat.add_comm]
theorem orS64 {x y s:Nat} (hx:x < 2 ^ s) (hy:y < 256) (hs:s ≤ 56):IntKind.u64.wrap (((BitVec.ofInt IntKind.u64.bits (x:Int) ||| BitVec.ofInt IntKind.u64.bits (IntKind.u64.wrap (IntKind.u64.wrap (y:Int) * (2:Int) ^ min s IntKind.u64.bits))).toNat:Nat):Int) = ((x + y * 2 ^ s:Nat):Int) := by
 have h56:2 ^ s ≤ 2 ^ 56 := Nat.pow_le_pow_right (by omega) hs
 have hm:y * 2 ^ s ≤ 255 * 2 ^ 56 := Nat.mul_le_mul (by omega) h56
 rw [nwrap64 (n := y) (by omega),nshl64 y s (by omega),nwrap64 (n := y * 2 ^ s) (by omega),nor64 (by omega) (by omega),lorS hx]
theorem orS32 {x y s:Nat} (hx:x < 2 ^ s) (hy:y < 256) (hs:s ≤ 24):IntKind.u32.wrap (((BitVec.ofInt IntKind.u32.bits (x:Int) ||| BitVec.ofInt IntKind.u32.bits (IntKind.u32.wrap (IntKind.u32.wrap (y:Int) * (2:Int) ^ min s IntKind.u32.bits))).toNat:Nat):Int) = ((x + y * 2 ^ s:Nat):Int) := by
 have h56:2 ^ s ≤ 2 ^ 24 := Nat.pow_le_pow_right (by omega) hs
 have hm:y * 2 ^ s ≤ 255 * 2 ^ 24 := Nat.mul_le_mul (by omega) h56
 rw [nwrap32 (n := y) (by omega),nshl32 y s (by omega),nwrap32 (n := y * 2 ^ s) (by omega),nor32 (by omega) (by omega),lorS hx]
theorem av64 {x y:Int} (h:x = y):AV.o (A1.c (CV.val (.int .u64 x))) = AV.o (A1.c (CV.val (.int .u64 y))) := by rw [h]
theorem av32 {x y:Int} (h:x = y):AV.o (A1.c (CV.val (.int .u32 x))) = AV.o (A1.c (CV.val (.int .u32 y))) := by rw [h]
theorem take_n4 {l:List Int} {o:Nat} {a0 a1 a2 a3:Int} (h0:l[o]? = some a0) (h1:l[o + 1]? = some a1) (h2:l[o + 2]? = some a2) (h3:l[o + 3]? = some a3):(l.drop o).take 4 = [a0,a1,a2,a3] := by
 apply List.ext_getElem?
 intro i
 rw [List.getElem?_take,List.getElem?_drop]
 match i with
 | 0 => exact h0
 | 1 => exact h1
 | 2 => exact h2
 | 3 => exact h3
 | i + 4 => rw [if_neg (by omega)]; rfl
theorem take_n8 {l:List Int} {o:Nat} {a0 a1 a2 a3 a4 a5 a6 a7:Int} (h0:l[o]? = some a0) (h1:l[o + 1]? = some a1) (h2:l[o + 2]? = some a2) (h3:l[o + 3]? = some a3) (h4:l[o + 4]? = some a4) (h5:l[o + 5]? = some a5) (h6:l[o + 6]? = some a6) (h7:l[o + 7]? = some a7) :
   (l.drop o).take 8 = [a0,a1,a2,a3,a4,a5,a6,a7] := by
 apply List.ext_getElem?
 intro i
 rw [List.getElem?_take,List.getElem?_drop]
 match i with
 | 0 => exact h0
 | 1 => exact h1
 | 2 => exact h2
 | 3 => exact h3
 | 4 => exact h4
 | 5 => exact h5
 | 6 => exact h6
 | 7 => exact h7
 | i + 8 => rw [if_neg (by omega)]; rfl
theorem le32W (w0:World) {l:List Int} (hl:Byt l) {o c:Nat} (h:o + 4 ≤ l.length):CallsA Tryz.prog w0 93 [.a [],.c (.sli 0 1 o 4 c)] [rowB l] fun r H => r = .o (.c (.val (.int .u32 ((le ((l.drop o).take 4):Nat):Int)))) ∧ H = [rowB l] := by
 obtain ⟨a0,h0,l0⟩ := byt_at hl (i := o) (by omega)
 obtain ⟨a1,h1,l1⟩ := byt_at hl (i := o + 1) (by omega)
 obtain ⟨a2,h2,l2⟩ := byt_at hl (i := o + 2) (by omega)
 obtain ⟨a3,h3,l3⟩ := byt_at hl (i := o + 3) (by omega)
 rw [take_n4 h0 h1 h2 h3]
 refine callsA_of_ev c93_ ?_
 conv => whnf
 refine ⟨⟨by decide,by decide⟩,?_⟩
 conv => whnf
 refine ⟨_,h3,?_⟩
 conv => whnf
 refine ⟨⟨by decide,by decide⟩,?_⟩
 conv => whnf
 refine ⟨_,h0,?_⟩
 conv => whnf
 refine ⟨⟨by decide,by decide⟩,?_⟩
 conv => whnf
 refine ⟨_,h1,?_⟩
 conv => whnf
 refine ⟨⟨by decide,by decide⟩,?_⟩
 conv => whnf
 refine ⟨_,h2,?_⟩
 conv => whnf
 refine ⟨⟨by decide,by decide⟩,?_⟩
 conv => whnf
 refine ⟨_,h3,?_⟩
 conv => whnf
 refine Or.inr ⟨[0],.o (.c (.val (.int .u32 ((le [(a0:Int),(a1:Int),(a2:Int),(a3:Int)]:Nat):Int)))),[rowB l],⟨rfl,⟨rfl,rfl,trivial⟩,rfl⟩,?_,rfl,rfl⟩
 refine av32 ?_
 rw [nwrap32 (n := a0) (by omega),orS32 (x := a0) (y := a1) (s := 8) (by omega) l1 (by omega),orS32 (y := a2) (s := 16) (by omega) l2 (by omega),orS32 (y := a3) (s := 24) (by omega) l3 (by omega)]
 simp only [le,Int.toNat_natCast]
 omega
theorem le64W (w0:World) {l:List Int} (hl:Byt l) {o c:Nat} (h:o + 8 ≤ l.length):CallsA Tryz.prog w0 92 [.a [],.c (.sli 0 1 o 8 c)] [rowB l] fun r H => r = .o (.c (.val (.int .u64 ((le ((l.drop o).take 8):Nat):Int)))) ∧ H = [rowB l] := by
 obtain ⟨a0,h0,l0⟩ := byt_at hl (i := o) (by omega)
 obtain ⟨a1,h1,l1⟩ := byt_at hl (i := o + 1) (by omega)
 obtain ⟨a2,h2,l2⟩ := byt_at hl (i := o + 2) (by omega)
 obtain ⟨a3,h3,l3⟩ := byt_at hl (i := o + 3) (by omega)
 obtain ⟨a4,h4,l4⟩ := byt_at hl (i := o + 4) (by omega)
 obtain ⟨a5,h5,l5⟩ := byt_at hl (i := o + 5) (by omega)
 obtain ⟨a6,h6,l6⟩ := byt_at hl (i := o + 6) (by omega)
 obtain ⟨a7,h7,l7⟩ := byt_at hl (i := o + 7) (by omega)
 rw [take_n8 h0 h1 h2 h3 h4 h5 h6 h7]
 refine callsA_of_ev c92_ ?_
 conv => whnf
 refine ⟨⟨by decide,by decide⟩,?_⟩
 conv => whnf
 refine ⟨_,h7,?_⟩
 conv => whnf
 refine ⟨⟨by decide,by decide⟩,?_⟩
 conv => whnf
 refine ⟨_,h0,?_⟩
 conv => whnf
 refine ⟨⟨by decide,by decide⟩,?_⟩
 conv => whnf
 refine ⟨_,h1,?_⟩
 conv => whnf
 refine ⟨⟨by decide,by decide⟩,?_⟩
 conv => whnf
 refine ⟨_,h2,?_⟩
 conv => whnf
 refine ⟨⟨by decide,by decide⟩,?_⟩
 conv => whnf
 refine ⟨_,h3,?_⟩
 conv => whnf
 refine ⟨⟨by decide,by decide⟩,?_⟩
 conv => whnf
 refine ⟨_,h4,?_⟩
 conv => whnf
 refine ⟨⟨by decide,by decide⟩,?_⟩
 conv => whnf
 refine ⟨_,h5,?_⟩
 conv => whnf
 refine ⟨⟨by decide,by decide⟩,?_⟩
 conv => whnf
 refine ⟨_,h6,?_⟩
 conv => whnf
 refine ⟨⟨by decide,by decide⟩,?_⟩
 conv => whnf
 refine ⟨_,h7,?_⟩
 conv => whnf
 refine Or.inr ⟨[0],.o (.c (.val (.int .u64 ((le [(a0:Int),(a1:Int),(a2:Int),(a3:Int),(a4:Int),(a5:Int),(a6:Int),(a7:Int)]:Nat):Int)))),[rowB l],⟨rfl,⟨rfl,rfl,trivial⟩,rfl⟩,?_,rfl,rfl⟩
 refine av64 ?_
 rw [nwrap64 (n := a0) (by omega),orS64 (x := a0) (y := a1) (s := 8) (by omega) l1 (by omega),orS64 (y := a2) (s := 16) (by omega) l2 (by omega),orS64 (y := a3) (s := 24) (by omega) l3 (by omega),orS64 (y := a4) (s := 32) (by omega) l4 (by omega),orS64 (y := a5) (s := 40) (by omega) l5 (by omega),orS64 (y := a6) (s := 48) (by omega) l6 (by omega),orS64 (y := a7) (s := 56) (by omega) l7 (by omega)]
 simp only [le,Int.toNat_natCast]
 omega
end Go.Proofs.YtokkphocaloelaaGreatDoor

end
section
namespace Go.Proofs.YtokkphocaloelaaGreatDoor
open Go Go.Vc
set_option maxRecDepth 100000
set_option maxHeartbeats 8000000

abbrev Sr := Option (Nat × Nat × Nat)
def Sr.cv (i:Nat) (L:List Int):Sr → CV
 | none => .vec i L.length
 | some (o,n,c) => .sli i 1 o n c
def Sr.ok (L:List Int):Sr → Prop
 | none => True
 | some (o,n,_) => o + n ≤ L.length
def Sr.rem (L:List Int):Sr → List Int
 | none => L
 | some (o,n,_) => (L.drop o).take n
def srcB (i:Nat) (L:List Int) (s:Sr):Blk := .cells 120 [s.cv i L]
theorem Sr.cv_ren {L:List Int} {σ:List Nat} {i j:Nat} (h:σ[i]? = some j) (s:Sr):(s.cv i L).ren σ = s.cv j L := by
 cases s with
 | none => simp only [Sr.cv,CV.ren,h]
 | some x =>
   obtain ⟨o,n,c⟩ := x
   simp only [Sr.cv,CV.ren,h]
theorem srcB_ren {L:List Int} {σ:List Nat} {i j:Nat} (h:σ[i]? = some j) (s:Sr):(srcB i L s).ren σ = srcB j L s := by
 show Blk.cells _ [(s.cv i L).ren σ] = _
 rw [Sr.cv_ren h]
 rfl
theorem srcE {L:List Int} {σ:List Nat} {i j:Nat} (h:σ[i]? = some j) (s:Sr):some (srcB j L s) = some ((srcB i L s).ren σ) := by rw [srcB_ren h]
theorem srcEE {L:List Int} {σ τ:List Nat} {i i' j:Nat} (h:σ[i]? = some j) (h':τ[i']? = some j) (s:Sr):some ((srcB i' L s).ren τ) = some ((srcB i L s).ren σ) := by rw [srcB_ren h,srcB_ren h']
def putAt (xs:List Int) (o:Nat) (ys:List Int):List Int := xs.take o ++ (ys ++ xs.drop (o + ys.length))
theorem srcReadW {w0:World} {t:TypeId} {v:Nat → Value} (he:Errs w0 t v) {L xs:List Int} {s:Sr} {o m c:Nat} (hs:s.ok L) (ho:o + m ≤ xs.length) (_hL:L.length ≤ 1099511627776) :
   CallsA Tryz.prog w0 164 [.c (.ptr 0 0),.c (.sli 2 1 o m c)] [srcB 1 L s,datB L,rowB xs] fun r H =>
     (s.rem L = [] ∧ r = .t [.c (.val (.int .i64 ((0:Nat):Int))),.c (.val (.iface t (v 0)))] ∧ H = [srcB 1 L s,datB L,rowB xs]) ∨
     (s.rem L ≠ [] ∧ ∃ (s':Sr) (k:Nat),k = min m (s.rem L).length ∧ s'.ok L ∧ s'.rem L = (s.rem L).drop k ∧ r = .t [.c (.val (.int .i64 ((k:Nat):Int))),.c (.val .nilIface)] ∧ H = [srcB 1 L s',datB L,rowB (putAt xs o ((s.rem L).take k))]) := by
 refine callsA_of_ev c164_ ?_
 cases s with
 | none =>
   conv => whnf
   refine Or.inl ?_
   conv => whnf
   refine ⟨fun g => ?_,fun g => ?_⟩
   · have g:L.length = 0 := beq_t (b := 0) g
     have hnil:Sr.rem L none = [] := List.eq_nil_of_length_eq_zero g
     conv => whnf
     refine ⟨.iface t (v 0),?_⟩
     conv => whnf
     refine ⟨he.get 0 (by decide) (by decide) (by decide),?_⟩
     conv => whnf
     refine ⟨rfl,?_⟩
     conv => whnf
     exact Or.inl (.inl ⟨hnil,rfl,rfl⟩)
   · have g:L.length ≠ 0 := beq_f (b := 0) g
     have hnil:Sr.rem L none ≠ [] := fun h => g (by rw [show L = [] from h]; rfl)
     conv => whnf
     refine ⟨ho,L.take (min L.length m),⟨rfl,Nat.min_le_left _ _,by rw [List.length_take]; omega,rfl⟩,?_⟩
     conv => whnf
     have hk:(L.take (min L.length m)).length = min m L.length := by rw [List.length_take]; omega
     rw [hk]
     obtain ⟨k,hkk⟩:∃ k,k = min m L.length := ⟨_,rfl⟩
     have hkq:k = min m (Sr.rem L none).length := hkk
     rw [← hkk] at hk ⊢
     have hkl:k ≤ L.length := by omega
     have hput:(xs.take o ++ (L.take (min L.length m) ++ xs.drop (o + k))) = putAt xs o (L.take k) := by
       unfold putAt
       rw [show min L.length m = k by omega,List.length_take,Nat.min_eq_left hkl]
     rw [hput]
     refine ⟨⟨by omega,by omega,Int.le_refl _⟩,.inl ⟨fun c hc1 hc2 => ?_,fun hl => ?_,fun hl h0 => ?_⟩⟩
     · conv => whnf
       refine Or.inl (.inr ⟨hnil,some (k,L.length - k,c - k),k,hkq,?_,?_,rfl,rfl⟩)
       · show k + (L.length - k) ≤ L.length
         omega
       · show (L.drop k).take (L.length - k) = L.drop k
         rw [List.take_of_length_le (by rw [List.length_drop]; omega)]
     · have hl:k = L.length := by omega
       conv => whnf
       refine Or.inl (.inr ⟨hnil,some (0,0,0),k,hkq,Nat.zero_le _,?_,rfl,rfl⟩)
       show [] = L.drop k
       rw [List.drop_of_length_le (by omega)]
     · omega
 | some x =>
   obtain ⟨a,n,c0⟩ := x
   have hs:a + n ≤ L.length := hs
   have hrl:((L.drop a).take n).length = n := by rw [List.length_take,List.length_drop]; omega
   conv => whnf
   refine Or.inl ?_
   conv => whnf
   refine ⟨fun g => ?_,fun g => ?_⟩
   · have g:n = 0 := beq_t (b := 0) g
     have hnil:Sr.rem L (some (a,n,c0)) = [] := List.eq_nil_of_length_eq_zero (by show ((L.drop a).take n).length = 0; rw [hrl,g])
     conv => whnf
     refine ⟨.iface t (v 0),?_⟩
     conv => whnf
     refine ⟨he.get 0 (by decide) (by decide) (by decide),?_⟩
     conv => whnf
     refine ⟨rfl,?_⟩
     conv => whnf
     exact Or.inl (.inl ⟨hnil,rfl,rfl⟩)
   · have g:n ≠ 0 := beq_f (b := 0) g
     have hnil:Sr.rem L (some (a,n,c0)) ≠ [] := fun h => g (by rw [← hrl,show (L.drop a).take n = [] from h]; rfl)
     conv => whnf
     refine ⟨ho,(L.drop a).take (min n m),⟨rfl,rfl,by omega,by rw [List.length_take,List.length_drop]; omega,rfl⟩,?_⟩
     conv => whnf
     have hk:((L.drop a).take (min n m)).length = min m n := by rw [List.length_take,List.length_drop]; omega
     rw [hk]
     obtain ⟨k,hkk⟩:∃ k,k = min m n := ⟨_,rfl⟩
     have hkq:k = min m (Sr.rem L (some (a,n,c0))).length := by rw [show (Sr.rem L (some (a,n,c0))).length = n from hrl]; exact hkk
     rw [← hkk] at hk ⊢
     have hkl:k ≤ n := by omega
     have hput:(xs.take o ++ ((L.drop a).take (min n m) ++ xs.drop (o + k))) = putAt xs o (((L.drop a).take n).take k) := by
       unfold putAt
       rw [show min n m = k by omega,List.take_take,Nat.min_eq_left hkl,List.length_take,List.length_drop,Nat.min_eq_left (by omega)]
     rw [hput]
     refine ⟨⟨by omega,by omega,Int.le_refl _⟩,fun hc => ?_,fun hl hc => ?_⟩
     · conv => whnf
       refine Or.inl (.inr ⟨hnil,some (a + k,n - k,c0 - k),k,hkq,?_,?_,rfl,rfl⟩)
       · show a + k + (n - k) ≤ L.length
         omega
       · show (L.drop (a + k)).take (n - k) = ((L.drop a).take n).drop k
         rw [List.drop_take,List.drop_drop]
     · have hl:k = n := by omega
       conv => whnf
       refine Or.inl (.inr ⟨hnil,some (a,0,0),k,hkq,by show a + 0 ≤ L.length; omega,?_,rfl,rfl⟩)
       show [] = ((L.drop a).take n).drop k
       rw [List.drop_of_length_le (by rw [hrl]; omega)]
end Go.Proofs.YtokkphocaloelaaGreatDoor

end
section
namespace Go.Proofs.YtokkphocaloelaaGreatDoor
open Go Go.Vc
set_option maxRecDepth 100000
set_option maxHeartbeats 8000000

theorem src_meth:methOf Tryz.prog 118 "Read" 164 := fun a w => by kernel_rfl
theorem src_nil:nilOk Tryz.prog 118 "Read" := fun a w => by kernel_rfl
def errV (t:TypeId) (v:Nat → Value) (e:Bool):CV := if e = true then .val (.iface t (v 0)) else .val .nilIface
def rlSt (t:TypeId) (v:Nat → Value) (L:List Int) (m n:Nat) (e:Bool) (s:Sr) (xs:List Int):S := ⟨[(0,.o (.c (.ifc 118 0 0))),(1,.o (.c (.vec 2 m))),(2,.o (.c (.val (.int .i64 m)))),(6,.o (.c (.val (.int .i64 n)))),(7,.o (.c (errV t v e)))],[srcB 1 L s,datB L,rowB xs]⟩
theorem readAtLeastW {w0:World} {t:TypeId} {v:Nat → Value} (he:Errs w0 t v) {L xs:List Int} {s:Sr} {m:Nat} (hs:s.ok L) (hx:xs.length = m) (hL:L.length ≤ 1099511627776) (hm:m ≤ 1099511627776) :
   CallsA Tryz.prog w0 121 [.c (.ifc 118 0 0),.c (.vec 2 m),.c (.val (.int .i64 m))] [srcB 1 L s,datB L,rowB xs] fun r H =>
     (m ≤ (s.rem L).length ∧ ∃ s':Sr,s'.ok L ∧ s'.rem L = (s.rem L).drop m ∧ r = .t [.c (.val (.int .i64 ((m:Nat):Int))),.c (.val .nilIface)] ∧ H = [srcB 1 L s',datB L,rowB ((s.rem L).take m)]) ∨
     ((s.rem L).length < m ∧ ∃ n k:Nat,k < 2 ∧ (s.rem L = [] → k = 0) ∧ r = .t [.c (.val (.int .i64 ((n:Nat):Int))),.c (.val (.iface t (v k)))] ∧ H = [.dead,.dead,.dead]) := by
 refine callsA_of_ev c121_ ?_
 conv => whnf
 refine Or.inl ?_
 conv => whnf
 refine ⟨fun g => absurd (lt_t g) (Nat.lt_irrefl _),fun _ => ?_⟩
 conv => whnf
 refine Or.inr ⟨{x:Nat × Bool × Sr × List Int // x.1 ≤ m ∧ x.1 ≤ (s.rem L).length ∧ x.2.2.1.ok L ∧ x.2.2.1.rem L = (s.rem L).drop x.1 ∧ x.2.2.2 = (s.rem L).take x.1 ++ xs.drop x.1 ∧ (x.2.1 = true → x.1 < m ∧ (s.rem L).length ≤ x.1) ∧ (x.1 < m → x.2.1 = true)},fun ⟨⟨n,e,s',xs'⟩,_⟩ => rlSt t v L m n e s' xs',?_,fun ⟨⟨n,e,s',xs'⟩,h1,h2,h3,h4,h5,h6,h7⟩ => ?_⟩
 · conv => whnf
   refine ⟨{x:Nat × Bool × Sr × List Int // x.1 ≤ m ∧ x.1 ≤ (s.rem L).length ∧ x.2.2.1.ok L ∧ x.2.2.1.rem L = (s.rem L).drop x.1 ∧ x.2.2.2 = (s.rem L).take x.1 ++ xs.drop x.1 ∧ (x.2.1 = true → x.1 < m ∧ (s.rem L).length ≤ x.1)},fun ⟨⟨n,e,s',xs'⟩,_⟩ => rlSt t v L m n e s' xs',fun x => 2 * (m - x.1.1) + (if x.1.2.1 = true then 0 else 1),
     ⟨⟨(0,false,s,xs),Nat.zero_le _,Nat.zero_le _,hs,rfl,rfl,fun h => Bool.noConfusion h⟩,[0,1,2],⟨rfl,⟨srcE (by rfl) _,rfl,rfl,rfl,rfl,rfl,trivial⟩,rfl⟩,rfl,rfl,rfl,rfl,rfl,trivial⟩,fun ⟨⟨n,e,s',xs'⟩,h1,h2,h3,h4,h5,h6⟩ => ?_⟩
   simp only at h1 h2 h3 h4 h5 h6
   have hxl:xs'.length = m := by
     rw [h5,List.length_append,List.length_take,List.length_drop,hx]
     omega
   cases e with
   | true =>
     have h6 := h6 rfl
     conv => whnf
     refine ⟨fun _ => ?_,fun g => absurd (lt_f g) (by omega)⟩
     conv => whnf
     refine ⟨fun g => zF g,fun _ => ?_⟩
     conv => whnf
     exact ⟨⟨(n,true,s',xs'),h1,h2,h3,h4,h5,fun _ => h6,fun _ => rfl⟩,[0,1,2],⟨rfl,⟨srcE (by rfl) _,rfl,rfl,rfl,rfl,rfl,trivial⟩,rfl⟩,rfl,rfl,rfl,rfl,rfl,trivial⟩
   | false =>
     conv => whnf
     refine ⟨fun g => ?_,fun g => ?_⟩
     · have g:n < m := lt_t g
       conv => whnf
       refine ⟨fun _ => ?_,fun g => zT g⟩
       conv => whnf
       refine ⟨⟨by omega,by omega,Int.le_refl _⟩,.inl ⟨fun c hc1 hc2 => ?_,fun hl => ?_,fun hl h0 => ?_⟩⟩
       · conv => whnf
         refine ⟨src_nil,?_⟩
         conv => whnf
         refine ⟨164,src_meth,?_⟩
         conv => whnf
         refine CallsA.lift (H0 := [srcB 1 L s',datB L,rowB xs']) [0,1,2] rfl ⟨srcE (by rfl) _,rfl,rfl,rfl,rfl,rfl,trivial⟩ rfl (srcReadW he (o := n) (m := m - n) (c := c - n) h3 (by omega) hL) ?_
         rintro _ _ (⟨hn,rfl,rfl⟩ | ⟨hn,s2,k,hk,hs2,hr2,rfl,rfl⟩)
         · have hlen:(s.rem L).length ≤ n := by
             rw [h4] at hn
             have := congrArg List.length hn
             rw [List.length_drop,List.length_nil] at this
             omega
           refine ⟨trivial,?_⟩
           conv => whnf
           exact ⟨⟨(n,true,s',xs'),h1,h2,h3,h4,h5,fun _ => ⟨g,hlen⟩⟩,⟨[0,1,2],⟨rfl,⟨srcEE (by rfl) (by rfl) _,rfl,rfl,rfl,rfl,rfl,trivial⟩,rfl⟩,rfl,rfl,rfl,eq_i64 (by rw [nadd,nwrapi (by omega)]; rfl),rfl,trivial⟩,by show 2 * (m - n) + 0 < 2 * (m - n) + 1; omega⟩
         · have hrl:(s'.rem L).length = (s.rem L).length - n := by rw [h4,List.length_drop]
           have hrp:0 < (s'.rem L).length := List.length_pos_iff.2 hn
           refine ⟨trivial,?_⟩
           conv => whnf
           refine ⟨⟨(n + k,false,s2,putAt xs' n ((s'.rem L).take k)),by show n + k ≤ m; omega,by show n + k ≤ _; omega,hs2,by show s2.rem L = (s.rem L).drop (n + k); rw [hr2,h4,List.drop_drop],?_,fun h => Bool.noConfusion h⟩,⟨[0,1,2],⟨rfl,⟨srcEE (by rfl) (by rfl) _,rfl,rfl,rfl,rfl,rfl,trivial⟩,rfl⟩,rfl,rfl,rfl,eq_i64 (by rw [nadd,nwrapi (by omega)]),rfl,trivial⟩,by show 2 * (m - (n + k)) + 1 < 2 * (m - n) + 1; omega⟩
           show putAt xs' n ((s'.rem L).take k) = (s.rem L).take (n + k) ++ xs.drop (n + k)
           have hkl:((s'.rem L).take k).length = k := by rw [List.length_take]; omega
           unfold putAt
           rw [hkl,h5,List.take_left' (by rw [List.length_take]; omega),List.drop_append,List.length_take,Nat.min_eq_left h2,List.drop_of_length_le (by rw [List.length_take]; omega),List.nil_append,List.drop_drop,← List.append_assoc,h4,List.take_add]
           congr 2
           omega
       · omega
       · omega
     · have g:m ≤ n := lt_f g
       conv => whnf
       exact ⟨⟨(n,false,s',xs'),h1,h2,h3,h4,h5,h6,fun h => absurd h (Nat.not_lt.2 g)⟩,[0,1,2],⟨rfl,⟨srcE (by rfl) _,rfl,rfl,rfl,rfl,rfl,trivial⟩,rfl⟩,rfl,rfl,rfl,rfl,rfl,trivial⟩
 · simp only at h1 h2 h3 h4 h5 h6 h7
   cases e with
   | true =>
     have h6 := h6 rfl
     conv => whnf
     refine Or.inl ?_
     conv => whnf
     refine ⟨fun g => absurd (ge_t g) (by omega),fun _ => ?_⟩
     conv => whnf
     refine ⟨fun g => ?_,fun g => ?_⟩
     · have g:0 < n := gt_t g
       conv => whnf
       refine ⟨.iface t (v 0),?_⟩
       conv => whnf
       refine ⟨he.get 0 (by decide) (by decide) (by decide),?_⟩
       conv => whnf
       refine ⟨rfl,?_⟩
       conv => whnf
       refine ⟨_,he.eq0 0 (by decide) (by decide) (by decide),?_⟩
       conv => whnf
       refine ⟨fun _ => ?_,fun g => zT g⟩
       conv => whnf
       refine ⟨.iface t (v 1),?_⟩
       conv => whnf
       refine ⟨he.get 1 (by decide) (by decide) (by decide),?_⟩
       conv => whnf
       refine ⟨rfl,?_⟩
       conv => whnf
       exact Or.inr ⟨[0,1,2],.t [.c (.val (.int .i64 ((n:Nat):Int))),.c (.val (.iface t (v 1)))],[.dead,.dead,.dead],⟨rfl,⟨show 0 < 3 by decide,show 1 < 3 by decide,show 2 < 3 by decide,trivial⟩,rfl⟩,rfl,.inr ⟨by omega,n,1,by decide,fun h => by rw [h] at h2; simp at h2; omega,rfl,rfl⟩⟩
     · have g:n ≤ 0 := gt_f g
       conv => whnf
       exact Or.inr ⟨[0,1,2],.t [.c (.val (.int .i64 ((n:Nat):Int))),.c (.val (.iface t (v 0)))],[.dead,.dead,.dead],⟨rfl,⟨show 0 < 3 by decide,show 1 < 3 by decide,show 2 < 3 by decide,trivial⟩,rfl⟩,rfl,.inr ⟨by omega,n,0,by decide,fun _ => rfl,rfl,rfl⟩⟩
   | false =>
     have hnm:n = m := by
       rcases Nat.lt_or_ge n m with c | c
       · exact Bool.noConfusion (h7 c)
       · omega
     subst hnm
     have hxe:xs' = (s.rem L).take n := by rw [h5,List.drop_of_length_le (by omega),List.append_nil]
     subst hxe
     conv => whnf
     refine Or.inl ?_
     conv => whnf
     refine ⟨fun _ => ?_,fun g => absurd (ge_f g) (Nat.lt_irrefl _)⟩
     conv => whnf
     exact Or.inl (.inl ⟨h2,s',h3,h4,rfl,rfl⟩)
theorem readFullW {w0:World} {t:TypeId} {v:Nat → Value} (he:Errs w0 t v) {L xs:List Int} {s:Sr} {m:Nat} (hs:s.ok L) (hx:xs.length = m) (hL:L.length ≤ 1099511627776) (hm:m ≤ 1099511627776) :
   CallsA Tryz.prog w0 91 [.c (.ifc 118 0 0),.c (.vec 2 m)] [srcB 1 L s,datB L,rowB xs] fun r H =>
     (m ≤ (s.rem L).length ∧ ∃ s':Sr,s'.ok L ∧ s'.rem L = (s.rem L).drop m ∧ r = .t [.c (.val (.int .i64 ((m:Nat):Int))),.c (.val .nilIface)] ∧ H = [srcB 1 L s',datB L,rowB ((s.rem L).take m)]) ∨
     ((s.rem L).length < m ∧ ∃ n k:Nat,k < 2 ∧ (s.rem L = [] → k = 0) ∧ r = .t [.c (.val (.int .i64 ((n:Nat):Int))),.c (.val (.iface t (v k)))] ∧ H = [.dead,.dead,.dead]) := by
 refine callsA_of_ev c91_ ?_
 conv => whnf
 refine CallsA.lift (H0 := [srcB 1 L s,datB L,rowB xs]) [0,1,2] rfl ⟨srcE (by rfl) _,rfl,rfl,rfl,rfl,rfl,trivial⟩ rfl (readAtLeastW he hs hx hL hm) ?_
 rintro _ _ (⟨h1,s',h2,h3,rfl,rfl⟩ | ⟨h1,n,k,h2,h3,rfl,rfl⟩)
 · conv => whnf
   exact Or.inl (.inl ⟨h1,s',h2,h3,rfl,congrArg (fun b => [b,datB L,rowB ((s.rem L).take m)]) (srcB_ren (by rfl) s')⟩)
 · conv => whnf
   exact Or.inl (.inr ⟨h1,n,k,h2,h3,rfl,rfl⟩)
end Go.Proofs.YtokkphocaloelaaGreatDoor

end
section
namespace Go.Proofs.YtokkphocaloelaaGreatDoor
open Go Go.Vc
set_option maxRecDepth 100000
set_option maxHeartbeats 8000000

def tabI (i:Nat):List Int := ((List.range i).map fun j => ((crcT j:Nat):Int)) ++ List.replicate (256 - i) 0
def tabL:List Int := (List.range 256).map fun j => ((crcT j:Nat):Int)
def tabB (l:List Int):Blk := .vec true 208 (encI .u32) [] 1 l
theorem tabI_len {i:Nat} (h:i ≤ 256):(tabI i).length = 256 := by
 unfold tabI
 rw [List.length_append,List.length_map,List.length_range,List.length_replicate]
 omega
theorem tabI_set {i:Nat} (h:i < 256) (x:Int):(tabI i).set i x = ((List.range i).map fun j => ((crcT j:Nat):Int)) ++ x :: List.replicate (256 - (i + 1)) 0 := by
 unfold tabI
 rw [List.set_append_right _ _ (by simp),List.length_map,List.length_range,Nat.sub_self,show 256 - i = (256 - (i + 1)) + 1 by omega,List.replicate_succ,List.set_cons_zero]
theorem tabI_0 {i:Nat} (h:i < 256):(tabI i).set i 0 = tabI i := by
 rw [tabI_set h]
 unfold tabI
 rw [show 256 - i = (256 - (i + 1)) + 1 by omega,List.replicate_succ]
theorem tabI_succ {i:Nat} (h:i < 256):(tabI i).set i ((crcT i:Nat):Int) = tabI (i + 1) := by
 rw [tabI_set h]
 unfold tabI
 rw [List.range_succ,List.map_append,List.append_assoc]
 rfl
theorem tabI_256:tabI 256 = tabL := by
 unfold tabI tabL
 rw [Nat.sub_self,List.replicate_zero,List.append_nil]
theorem tabL_at {i:Nat} (h:i < 256):tabL[i]? = some ((crcT i:Nat):Int) := by
 unfold tabL
 rw [List.getElem?_map,List.getElem?_range h]
 rfl
def tx (d:Nat):Nat → Nat
 | 0 => 0
 | k + 1 => crcN (k + 1) d
theorem genTableW (w0:World):CallsA Tryz.prog w0 119 [] [] fun r H => r = .o (.c (.ptr 0 0)) ∧ H = [tabB tabL] := by
 refine callsA_of_ev c119_ ?_
 conv => whnf
 refine Or.inr ⟨Int,encI .u32,[],1,List.replicate 256 0,by decide,fun _ => rfl,rfl,by decide,?_⟩
 conv => whnf
 refine Or.inr ⟨Unit,fun _ => ⟨[(1,.o (.c (.ptr 0 0)))],[tabB tabL]⟩,?_,fun _ => ?_⟩
 · conv => whnf
   refine ⟨{i:Nat // i ≤ 256},fun ⟨i,_⟩ => ⟨[(1,.o (.c (.ptr 0 0))),(4,.o (.c (.val (.int .u32 (i:Nat)))))],[tabB (tabI i)]⟩,fun i => 256 - i.1,⟨⟨0,Nat.zero_le _⟩,[0],⟨rfl,⟨rfl,rfl,trivial⟩,rfl⟩,rfl,rfl,trivial⟩,fun ⟨i,hi⟩ => ?_⟩
   conv => whnf
   refine ⟨fun g => ?_,fun g => ?_⟩
   · have g:i < 256 := lt_t g
     conv => whnf
     refine Or.inr ⟨Unit,fun _ => ⟨[(1,.o (.c (.ptr 0 0))),(4,.o (.c (.val (.int .u32 (i:Nat)))))],[tabB (tabI (i + 1))]⟩,?_,fun _ => ?_⟩
     · conv => whnf
       refine ⟨{k:Nat // k ≤ 8},fun ⟨k,_⟩ => ⟨[(1,.o (.c (.ptr 0 0))),(2,.o (.c (.val (.int .u32 (i:Nat))))),(3,.o (.c (.val (.int .u32 (crcN k (i * 16777216):Nat))))),(4,.o (.c (.val (.int .u32 (i:Nat))))),(9,.o (.c (.val (.int .i64 k))))],[tabB ((tabI i).set i ((tx (i * 16777216) k:Nat):Int))]⟩,fun k => 8 - k.1,⟨⟨0,Nat.zero_le _⟩,[0],⟨rfl,⟨?_,rfl,trivial⟩,rfl⟩,rfl,rfl,eq_u32 ?_,rfl,rfl,trivial⟩,fun ⟨k,hk⟩ => ?_⟩
       · show some (tabB (tabI i)) = some (tabB ((tabI i).set i ((0:Nat):Int)))
         rw [show ((0:Nat):Int) = 0 from rfl,tabI_0 g]
       · rw [nshlk .u32 i 24 (by decide),nwrap32 (by omega)]
         rfl
       conv => whnf
       have hkl := crcN_lt (c := i * 16777216) (by omega) k
       refine ⟨fun g2 => ?_,fun g2 => ?_⟩
       · have g2:k < 8 := lt_t g2
         conv => whnf
         refine Or.inl ?_
         conv => whnf
         refine Or.inl ?_
         conv => whnf
         rw [nand32 hkl (by omega)]
         have hq:crcN (k + 1) (i * 16777216) = crc1 (crcN k (i * 16777216)) := rfl
         have hsh:IntKind.u32.wrap (((crcN k (i * 16777216):Nat):Int) * (2:Int) ^ min 1 IntKind.u32.bits) = ((crcN k (i * 16777216) * 2 % 4294967296:Nat):Int) := by
           rw [nshlk .u32 _ 1 (by decide),IntKind.wrap_u32]
           omega
         refine ⟨fun g3 => ?_,fun g3 => ?_⟩
         · have g3:crcN k (i * 16777216) &&& 2147483648 ≠ 0 := fun h => by simp [h] at g3
           have hval:IntKind.u32.wrap (((BitVec.ofInt IntKind.u32.bits (IntKind.u32.wrap (((crcN k (i * 16777216):Nat):Int) * (2:Int) ^ min 1 IntKind.u32.bits)) ^^^ BitVec.ofInt IntKind.u32.bits ((79764919:Nat):Int)).toNat:Nat):Int) = ((crcN (k + 1) (i * 16777216):Nat):Int) := by
             rw [hsh,nxor32 (Nat.mod_lt _ (by decide)) (by omega),hq]
             unfold crc1
             rw [if_pos g3]
             rfl
           conv => whnf
           refine ⟨⟨Int.natCast_nonneg i,show ((i:Nat):Int) < ((256:Nat):Int) by omega⟩,?_⟩
           conv => whnf
           refine ⟨_,((crcN (k + 1) (i * 16777216):Nat):Int),List.getElem?_eq_getElem (by rw [List.length_set,tabI_len (by omega)]; exact g),?_,?_⟩
           · show [CV.val (.int .u32 ((crcN (k + 1) (i * 16777216):Nat):Int))] = [CV.val (.int .u32 _)]
             rw [hval]
           conv => whnf
           refine ⟨⟨k + 1,g2⟩,⟨[0],⟨rfl,⟨?_,rfl,trivial⟩,rfl⟩,rfl,rfl,eq_u32 hval,rfl,eq_i64 ?_,trivial⟩,?_⟩
           · show some (tabB (((tabI i).set i ((tx (i * 16777216) k:Nat):Int)).set i ((crcN (k + 1) (i * 16777216):Nat):Int))) = some (tabB ((tabI i).set i ((crcN (k + 1) (i * 16777216):Nat):Int)))
             rw [List.set_set]
           · rw [nadd,nwrapi (by omega)]
           · show 8 - (k + 1) < 8 - k
             omega
         · have g3:crcN k (i * 16777216) &&& 2147483648 = 0 := by simpa using g3
           have hval:IntKind.u32.wrap (((crcN k (i * 16777216):Nat):Int) * (2:Int) ^ min 1 IntKind.u32.bits) = ((crcN (k + 1) (i * 16777216):Nat):Int) := by
             rw [hsh,hq]
             unfold crc1
             rw [if_neg fun h => h g3]
           conv => whnf
           refine ⟨⟨Int.natCast_nonneg i,show ((i:Nat):Int) < ((256:Nat):Int) by omega⟩,?_⟩
           conv => whnf
           refine ⟨_,((crcN (k + 1) (i * 16777216):Nat):Int),List.getElem?_eq_getElem (by rw [List.length_set,tabI_len (by omega)]; exact g),?_,?_⟩
           · show [CV.val (.int .u32 ((crcN (k + 1) (i * 16777216):Nat):Int))] = [CV.val (.int .u32 _)]
             rw [hval]
           conv => whnf
           refine ⟨⟨k + 1,g2⟩,⟨[0],⟨rfl,⟨?_,rfl,trivial⟩,rfl⟩,rfl,rfl,eq_u32 hval,rfl,eq_i64 ?_,trivial⟩,?_⟩
           · show some (tabB (((tabI i).set i ((tx (i * 16777216) k:Nat):Int)).set i ((crcN (k + 1) (i * 16777216):Nat):Int))) = some (tabB ((tabI i).set i ((crcN (k + 1) (i * 16777216):Nat):Int)))
             rw [List.set_set]
           · rw [nadd,nwrapi (by omega)]
           · show 8 - (k + 1) < 8 - k
             omega
       · have g2:8 ≤ k := lt_f g2
         obtain rfl:k = 8 := by omega
         conv => whnf
         refine ⟨(),⟨[0],⟨rfl,⟨?_,rfl,trivial⟩,rfl⟩,rfl,rfl,trivial⟩⟩
         show some (tabB ((tabI i).set i ((crcT i:Nat):Int))) = some (tabB (tabI (i + 1)))
         rw [tabI_succ g]
     · conv => whnf
       refine ⟨⟨i + 1,g⟩,⟨[0],⟨rfl,⟨rfl,rfl,trivial⟩,rfl⟩,rfl,eq_u32 ?_,trivial⟩,by show 256 - (i + 1) < 256 - i; omega⟩
       rw [nadd,nwrap32 (by omega)]
   · have g:256 ≤ i := lt_f g
     obtain rfl:i = 256 := by omega
     conv => whnf
     refine ⟨(),⟨[0],⟨rfl,⟨?_,rfl,trivial⟩,rfl⟩,rfl,trivial⟩⟩
     show some (tabB (tabI 256)) = some (tabB tabL)
     rw [tabI_256]
 · conv => whnf
   exact Or.inl ⟨rfl,rfl⟩
end Go.Proofs.YtokkphocaloelaaGreatDoor

end
section
namespace Go.Proofs.YtokkphocaloelaaGreatDoor
open Go Go.Vc
set_option maxRecDepth 100000
set_option maxHeartbeats 8000000

theorem nxor8 {a b:Nat} (ha:a < 256) (hb:b < 256):IntKind.u8.wrap (((BitVec.ofInt IntKind.u8.bits (a:Int) ^^^ BitVec.ofInt IntKind.u8.bits (b:Int)).toNat:Nat):Int) = ((a ^^^ b:Nat):Int) := by
 have e:(BitVec.ofInt IntKind.u8.bits (a:Int) ^^^ BitVec.ofInt IntKind.u8.bits (b:Int)).toNat = a ^^^ b := by
   show (BitVec.ofInt 8 (a:Int) ^^^ BitVec.ofInt 8 (b:Int)).toNat = _
   rw [BitVec.toNat_xor,BitVec.toNat_ofInt,BitVec.toNat_ofInt]
   congr 1 <;> omega
 rw [e]
 exact nwrap8 (Nat.xor_lt_two_pow (n := 8) ha hb)
def mapV (i:Nat) (m:Bool):CV := if m = true then .ptr i 0 else .val (.pointer none)
def rdB (a b c d:Nat) (m:Bool):Blk := .cells 162 [.ifc 118 a 0,.val (.int .i64 0),.ptr b 0,.val (.bool true),.ptr c 0,mapV d m]
theorem rdB_ren {σ:List Nat} {a b c d a' b' c' d':Nat} (h1:σ[a]? = some a') (h2:σ[b]? = some b') (h3:σ[c]? = some c') (h4:σ[d]? = some d') (m:Bool):(rdB a b c d m).ren σ = rdB a' b' c' d' m := by
 cases m <;> simp only [rdB,mapV,Blk.ren,List.map_cons,List.map_nil,CV.ren,h1,h2,h3,h4,if_true,if_false,Bool.false_eq_true]
theorem rdE {σ:List Nat} {a b c d a' b' c' d':Nat} (h1:σ[a]? = some a') (h2:σ[b]? = some b') (h3:σ[c]? = some c') (h4:σ[d]? = some d') (m:Bool):some (rdB a' b' c' d' m) = some ((rdB a b c d m).ren σ) := by rw [rdB_ren h1 h2 h3 h4]
theorem rdEE {σ τ:List Nat} {a b c d a' b' c' d' a2 b2 c2 d2:Nat} (h1:σ[a]? = some a') (h2:σ[b]? = some b') (h3:σ[c]? = some c') (h4:σ[d]? = some d') (k1:τ[a2]? = some a') (k2:τ[b2]? = some b') (k3:τ[c2]? = some c') (k4:τ[d2]? = some d') (m:Bool):some ((rdB a2 b2 c2 d2 m).ren τ) = some ((rdB a b c d m).ren σ) := by rw [rdB_ren h1 h2 h3 h4,rdB_ren k1 k2 k3 k4]
def sumB (c:Nat):Blk := .cells 22 [.val (.int .u32 (c:Nat))]
theorem updSumW (w0:World) {x:Int} {c:Nat} (m:Bool) (hx:0 ≤ x ∧ x < 256) (hc:c < 4294967296):CallsA Tryz.prog w0 122 [.c (.val (.int .u8 x)),.c (.ptr 0 0),.c (.ptr 1 0)] [sumB c,.cells 68 [.ptr 2 0],rdB 4 3 5 6 m,tabB tabL,.dead,.dead,.dead] fun r H =>
   r = .t [] ∧ H = [sumB (crcB c x),.cells 68 [.ptr 2 0],rdB 4 3 5 6 m,tabB tabL,.dead,.dead,.dead] := by
 obtain ⟨n,rfl⟩:∃ n:Nat,x = (n:Int) := ⟨x.toNat,by omega⟩
 have hn:n < 256 := by omega
 have hd:c / 16777216 < 256 := by omega
 have hxx:c / 16777216 ^^^ n < 256 := Nat.xor_lt_two_pow (n := 8) hd hn
 refine callsA_of_ev c122_ ?_
 conv => whnf
 have h1:IntKind.u32.wrap (((c:Nat):Int) * (2:Int) ^ min 8 IntKind.u32.bits) = ((c % 16777216 * 256:Nat):Int) := by
   rw [nshlk .u32 _ 8 (by decide),IntKind.wrap_u32]
   omega
 have h2:IntKind.u8.wrap (((c:Nat):Int).fdiv ((2:Int) ^ min 24 IntKind.u32.bits)) = ((c / 16777216:Nat):Int) := by
   rw [nshr32 c 24 (by decide),nwrap8 (by omega)]
 rw [h2,nxor8 hd hn]
 refine ⟨⟨Int.natCast_nonneg _,show ((c / 16777216 ^^^ n:Nat):Int) < ((256:Nat):Int) by omega⟩,?_⟩
 conv => whnf
 refine ⟨_,tabL_at hxx,?_⟩
 conv => whnf
 refine ⟨trivial,?_⟩
 conv => whnf
 refine Or.inl ⟨rfl,?_⟩
 show [Blk.cells _ [CV.val (.int .u32 _)],_,_,_,_,_,_] = _
 have hT:crcT (c / 16777216 ^^^ n) < 4294967296 := crcN_lt (by omega) 8
 rw [h1,Int.toNat_natCast,nxor32 (by omega) hT,sumB,crcB_tab,Int.toNat_natCast]
def hz (l:List Int):List Int := l.take 22 ++ [0,0,0,0] ++ l.drop 26
theorem hz_at {l:List Int} (h:l.length = 27) {j:Nat} {x:Int} (hx:l[j]? = some x) (hj:j < 22 ∨ 26 ≤ j):(hz l)[j]? = some x := by
 unfold hz
 rcases hj with hj | hj
 · rw [List.getElem?_append_left (by simp; omega),List.getElem?_append_left (by simp; omega),List.getElem?_take,if_pos hj,hx]
 · rw [List.getElem?_append_right (by simp; omega),List.getElem?_drop,List.length_append,List.length_take]
   rw [show 26 + (j - (min 22 l.length + [0,0,0,(0:Int)].length)) = j by simp; omega,hx]
theorem hz_mid {l:List Int} (h:l.length = 27) {j:Nat} (h1:22 ≤ j) (h2:j < 26):(hz l)[j]? = some 0 := by
 unfold hz
 rw [List.getElem?_append_left (by simp; omega),List.getElem?_append_right (by simp; omega),List.length_take,show min 22 l.length = 22 by omega]
 obtain ⟨i,rfl⟩:∃ i,j = 22 + i := ⟨j - 22,by omega⟩
 rw [Nat.add_sub_cancel_left]
 match i,h2 with
 | 0,_ => rfl
 | 1,_ => rfl
 | 2,_ => rfl
 | 3,_ => rfl
 | i + 4,h2 => omega
theorem hz_len {l:List Int} (h:l.length = 27):(hz l).length = 27 := by
 unfold hz
 simp
 omega
theorem hz_byt {l:List Int} (h:Byt l):Byt (hz l) := ((h.take 22).append (by intro x hx; simp at hx; subst hx; decide)).append (h.drop 26)
theorem crcS_snoc {A l:List Int} {j:Nat} {x:Int} (h:l[j]? = some x):crcB (crcS (A ++ l.take j)) x = crcS (A ++ l.take (j + 1)) := by
 unfold crcS
 rw [List.foldl_append,List.foldl_append,crcF_snoc h]
theorem crcS_app_lt {A B:List Int} (hA:Byt A) (hB:Byt B):crcS (A ++ B) < 4294967296 := crcS_lt (hA.append hB)
def outB (f:Nat) (segs:List (List Int)):Blk := .vec true 74 encF [f] 1 (turns (segs.map List.length))
def segB (segs:List (List Int)):Blk := .fam 5 (encI .u8) 1 segs
def vaH (m:Bool) (hdr sizes:List Int) (segs:List (List Int)) (c:Nat):List Blk := [rdB 1 3 4 5 m,.dead,.dead,tabB tabL,.dead,.dead,rowB hdr,rowB sizes,outB 9 segs,segB segs,.cells 68 [.ptr 0 0],sumB c]
def vaE (n k:Nat):Env := [(1,.o (.c (.vec 6 27))),(2,.o (.c (.vec 7 n))),(3,.o (.c (.vec 8 k))),(9,.o (.c (.ptr 11 0))),(10,.o (.c (.clo 122 [(11,0),(10,0)])))]
end Go.Proofs.YtokkphocaloelaaGreatDoor

end
section
namespace Go.Proofs.YtokkphocaloelaaGreatDoor
open Go Go.Vc
set_option maxRecDepth 100000
set_option maxHeartbeats 8000000

theorem validateW {w0:World} {t:TypeId} {v:Nat → Value} (he:Errs w0 t v) (m:Bool) {hdr sizes:List Int} {segs:List (List Int)} (hh:Byt hdr) (h27:hdr.length = 27) (hs:Byt sizes) (hsl:sizes.length ≤ 255) (hsg:∀ l ∈ segs,Byt l ∧ l.length ≤ 255) (hsn:segs.length ≤ 255) :
   CallsA Tryz.prog w0 94 [.c (.ptr 0 0),.c (.vec 6 27),.c (.vec 7 sizes.length),.c (.vec 8 segs.length)] [rdB 1 3 4 5 m,.dead,.dead,tabB tabL,.dead,.dead,rowB hdr,rowB sizes,outB 9 segs,segB segs] fun r H =>
     r = .o (.c (if le ((hdr.drop 22).take 4) = crcS (hz hdr ++ sizes ++ segs.flatten) then .val .nilIface else .val (.iface t (v 5)))) ∧ H = [rdB 1 3 4 5 m,.dead,.dead,tabB tabL,.dead,.dead,rowB hdr,rowB sizes,outB 9 segs,segB segs] := by
 have hzl := hz_len h27
 have hzb := hz_byt hh
 refine callsA_of_ev c94_ ?_
 conv => whnf
 refine Or.inr ⟨Unit,fun _ => ⟨vaE sizes.length segs.length,vaH m hdr sizes segs (crcS (hz hdr))⟩,?_,fun _ => ?_⟩
 · conv => whnf
   refine ⟨{j:Nat // j ≤ 27},fun ⟨j,_⟩ => ⟨(17,.o (.c (.vec 6 27))) :: (18,.o (.c (.val (.int .i64 ((27:Nat):Int))))) :: (19,.o (.c (.val (.int .i64 (j:Nat))))) :: vaE sizes.length segs.length,vaH m hdr sizes segs (crcS ((hz hdr).take j))⟩,fun j => 27 - j.1,⟨⟨0,Nat.zero_le _⟩,[0,1,2,3,4,5,6,7,8,9,10,11],⟨rfl,⟨rdE (by rfl) (by rfl) (by rfl) (by rfl) m,rfl,show 1 < 12 by decide,show 2 < 12 by decide,rfl,rfl,show 4 < 12 by decide,show 5 < 12 by decide,rfl,rfl,rfl,rfl,rfl,rfl,rfl,rfl,rfl,rfl,rfl,rfl,trivial⟩,rfl⟩,rfl,rfl,rfl,rfl,rfl,rfl,rfl,rfl,trivial⟩,fun ⟨j,hj⟩ => ?_⟩
   conv => whnf
   refine ⟨fun g => ?_,fun g => ?_⟩
   · have g:j < 27 := lt_t g
     obtain ⟨x,hx,hxb⟩ := byt_at hh (i := j) (by omega)
     have hc := crcS_lt (hzb.take j)
     conv => whnf
     refine Or.inr ⟨Unit,fun _ => ⟨(17,.o (.c (.vec 6 27))) :: (18,.o (.c (.val (.int .i64 ((27:Nat):Int))))) :: (19,.o (.c (.val (.int .i64 (j:Nat))))) :: vaE sizes.length segs.length,vaH m hdr sizes segs (crcS ((hz hdr).take (j + 1)))⟩,?_,fun _ => ?_⟩
     · conv => whnf
       refine Or.inl ?_
       conv => whnf
       refine ⟨fun g1 => ?_,fun g1 => ?_⟩
       · have g1:22 ≤ j := ge_t g1
         conv => whnf
         refine ⟨fun g2 => ?_,fun g2 => ?_⟩
         · have g2:j < 26 := lt_t g2
           conv => whnf
           refine CallsA.lift (H0 := [sumB (crcS ((hz hdr).take j)),.cells 68 [.ptr 2 0],rdB 4 3 5 6 m,tabB tabL,.dead,.dead,.dead]) [11,10,0,3,1,4,5] rfl ⟨rfl,rfl,rfl,rfl,rdE (by rfl) (by rfl) (by rfl) (by rfl) m,rfl,rfl,rfl,show 1 < 12 by decide,show 4 < 12 by decide,show 5 < 12 by decide,trivial⟩ rfl (updSumW w0 m (x := 0) (by decide) hc) ?_
           rintro _ _ ⟨rfl,rfl⟩
           conv => whnf
           refine ⟨(),[0,1,2,3,4,5,6,7,8,9,10,11],⟨rfl,⟨rdEE (by rfl) (by rfl) (by rfl) (by rfl) (by rfl) (by rfl) (by rfl) (by rfl) m,rfl,show 1 < 12 by decide,show 2 < 12 by decide,rfl,rfl,show 4 < 12 by decide,show 5 < 12 by decide,rfl,rfl,rfl,rfl,rfl,rfl,rfl,rfl,rfl,rfl,?_,rfl,trivial⟩,rfl⟩,rfl,rfl,rfl,rfl,rfl,rfl,rfl,rfl,trivial⟩
           show some (sumB (crcB (crcS ((hz hdr).take j)) 0)) = some (sumB (crcS ((hz hdr).take (j + 1))))
           rw [show crcB (crcS ((hz hdr).take j)) 0 = crcS ((hz hdr).take (j + 1)) from crcS_snoc (A := []) (hz_mid h27 g1 g2)]
         · have g2:26 ≤ j := lt_f g2
           conv => whnf
           refine ⟨⟨Int.natCast_nonneg j,show ((j:Nat):Int) < ((27:Nat):Int) by omega⟩,?_⟩
           conv => whnf
           refine ⟨((x:Nat):Int),?_⟩
           conv => whnf
           refine ⟨hx,?_⟩
           conv => whnf
           refine CallsA.lift (H0 := [sumB (crcS ((hz hdr).take j)),.cells 68 [.ptr 2 0],rdB 4 3 5 6 m,tabB tabL,.dead,.dead,.dead]) [11,10,0,3,1,4,5] rfl ⟨rfl,rfl,rfl,rfl,rdE (by rfl) (by rfl) (by rfl) (by rfl) m,rfl,rfl,rfl,show 1 < 12 by decide,show 4 < 12 by decide,show 5 < 12 by decide,trivial⟩ rfl (updSumW w0 m (x := x) (by omega) hc) ?_
           rintro _ _ ⟨rfl,rfl⟩
           conv => whnf
           refine ⟨(),[0,1,2,3,4,5,6,7,8,9,10,11],⟨rfl,⟨rdEE (by rfl) (by rfl) (by rfl) (by rfl) (by rfl) (by rfl) (by rfl) (by rfl) m,rfl,show 1 < 12 by decide,show 2 < 12 by decide,rfl,rfl,show 4 < 12 by decide,show 5 < 12 by decide,rfl,rfl,rfl,rfl,rfl,rfl,rfl,rfl,rfl,rfl,?_,rfl,trivial⟩,rfl⟩,rfl,rfl,rfl,rfl,rfl,rfl,rfl,rfl,trivial⟩
           show some (sumB (crcB (crcS ((hz hdr).take j)) x)) = some (sumB (crcS ((hz hdr).take (j + 1))))
           rw [show crcB (crcS ((hz hdr).take j)) x = crcS ((hz hdr).take (j + 1)) from crcS_snoc (A := []) (hz_at h27 hx (.inr g2))]
       · have g1:j < 22 := ge_f g1
         conv => whnf
         refine ⟨⟨Int.natCast_nonneg j,show ((j:Nat):Int) < ((27:Nat):Int) by omega⟩,?_⟩
         conv => whnf
         refine ⟨((x:Nat):Int),?_⟩
         conv => whnf
         refine ⟨hx,?_⟩
         conv => whnf
         refine CallsA.lift (H0 := [sumB (crcS ((hz hdr).take j)),.cells 68 [.ptr 2 0],rdB 4 3 5 6 m,tabB tabL,.dead,.dead,.dead]) [11,10,0,3,1,4,5] rfl ⟨rfl,rfl,rfl,rfl,rdE (by rfl) (by rfl) (by rfl) (by rfl) m,rfl,rfl,rfl,show 1 < 12 by decide,show 4 < 12 by decide,show 5 < 12 by decide,trivial⟩ rfl (updSumW w0 m (x := x) (by omega) hc) ?_
         rintro _ _ ⟨rfl,rfl⟩
         conv => whnf
         refine ⟨(),[0,1,2,3,4,5,6,7,8,9,10,11],⟨rfl,⟨rdEE (by rfl) (by rfl) (by rfl) (by rfl) (by rfl) (by rfl) (by rfl) (by rfl) m,rfl,show 1 < 12 by decide,show 2 < 12 by decide,rfl,rfl,show 4 < 12 by decide,show 5 < 12 by decide,rfl,rfl,rfl,rfl,rfl,rfl,rfl,rfl,rfl,rfl,?_,rfl,trivial⟩,rfl⟩,rfl,rfl,rfl,rfl,rfl,rfl,rfl,rfl,trivial⟩
         show some (sumB (crcB (crcS ((hz hdr).take j)) x)) = some (sumB (crcS ((hz hdr).take (j + 1))))
         rw [show crcB (crcS ((hz hdr).take j)) x = crcS ((hz hdr).take (j + 1)) from crcS_snoc (A := []) (hz_at h27 hx (.inl g1))]
     · conv => whnf
       exact ⟨⟨j + 1,g⟩,⟨[0,1,2,3,4,5,6,7,8,9,10,11],⟨rfl,⟨rdE (by rfl) (by rfl) (by rfl) (by rfl) m,rfl,show 1 < 12 by decide,show 2 < 12 by decide,rfl,rfl,show 4 < 12 by decide,show 5 < 12 by decide,rfl,rfl,rfl,rfl,rfl,rfl,rfl,rfl,rfl,rfl,rfl,rfl,trivial⟩,rfl⟩,rfl,rfl,eq_i64 (by rw [nadd,nwrapi (by omega)]),rfl,rfl,rfl,rfl,rfl,trivial⟩,by show 27 - (j + 1) < 27 - j; omega⟩
   · have g:27 ≤ j := lt_f g
     obtain rfl:j = 27 := by omega
     have hall:(hz hdr).take 27 = hz hdr := List.take_of_length_le (by omega)
     conv => whnf
     refine ⟨(),[0,1,2,3,4,5,6,7,8,9,10,11],⟨rfl,⟨rdE (by rfl) (by rfl) (by rfl) (by rfl) m,rfl,show 1 < 12 by decide,show 2 < 12 by decide,rfl,rfl,show 4 < 12 by decide,show 5 < 12 by decide,rfl,rfl,rfl,rfl,rfl,rfl,rfl,rfl,rfl,rfl,?_,rfl,trivial⟩,rfl⟩,rfl,rfl,rfl,rfl,rfl,trivial⟩
     show some (sumB (crcS ((hz hdr).take 27))) = some (sumB (crcS (hz hdr)))
     rw [hall]
 conv => whnf
 refine Or.inr ⟨Unit,fun _ => ⟨vaE sizes.length segs.length,vaH m hdr sizes segs (crcS (hz hdr ++ sizes))⟩,?_,fun _ => ?_⟩
 · conv => whnf
   refine ⟨{j:Nat // j ≤ sizes.length},fun ⟨j,_⟩ => ⟨(37,.o (.c (.vec 7 sizes.length))) :: (38,.o (.c (.val (.int .i64 (sizes.length:Nat))))) :: (39,.o (.c (.val (.int .i64 (j:Nat))))) :: vaE sizes.length segs.length,vaH m hdr sizes segs (crcS (hz hdr ++ sizes.take j))⟩,fun j => sizes.length - j.1,⟨⟨0,Nat.zero_le _⟩,[0,1,2,3,4,5,6,7,8,9,10,11],⟨rfl,⟨rdE (by rfl) (by rfl) (by rfl) (by rfl) m,rfl,show 1 < 12 by decide,show 2 < 12 by decide,rfl,rfl,show 4 < 12 by decide,show 5 < 12 by decide,rfl,rfl,rfl,rfl,rfl,rfl,rfl,rfl,rfl,rfl,?_,rfl,trivial⟩,rfl⟩,rfl,rfl,rfl,rfl,rfl,rfl,rfl,rfl,trivial⟩,fun ⟨j,hj⟩ => ?_⟩
   · show some (sumB (crcS (hz hdr))) = some (sumB (crcS (hz hdr ++ [])))
     rw [List.append_nil]
   conv => whnf
   refine ⟨fun g => ?_,fun g => ?_⟩
   · have g:j < sizes.length := lt_t g
     obtain ⟨x,hx,hxb⟩ := byt_at hs (i := j) g
     have hc := crcS_app_lt hzb (hs.take j)
     conv => whnf
     refine ⟨⟨Int.natCast_nonneg j,Int.ofNat_lt.2 g⟩,?_⟩
     conv => whnf
     refine ⟨((x:Nat):Int),?_⟩
     conv => whnf
     refine ⟨hx,?_⟩
     conv => whnf
     refine CallsA.lift (H0 := [sumB (crcS (hz hdr ++ sizes.take j)),.cells 68 [.ptr 2 0],rdB 4 3 5 6 m,tabB tabL,.dead,.dead,.dead]) [11,10,0,3,1,4,5] rfl ⟨rfl,rfl,rfl,rfl,rdE (by rfl) (by rfl) (by rfl) (by rfl) m,rfl,rfl,rfl,show 1 < 12 by decide,show 4 < 12 by decide,show 5 < 12 by decide,trivial⟩ rfl (updSumW w0 m (x := x) (by omega) hc) ?_
     rintro _ _ ⟨rfl,rfl⟩
     conv => whnf
     refine ⟨⟨j + 1,g⟩,⟨[0,1,2,3,4,5,6,7,8,9,10,11],⟨rfl,⟨rdEE (by rfl) (by rfl) (by rfl) (by rfl) (by rfl) (by rfl) (by rfl) (by rfl) m,rfl,show 1 < 12 by decide,show 2 < 12 by decide,rfl,rfl,show 4 < 12 by decide,show 5 < 12 by decide,rfl,rfl,rfl,rfl,rfl,rfl,rfl,rfl,rfl,rfl,?_,rfl,trivial⟩,rfl⟩,rfl,rfl,eq_i64 (by rw [nadd,nwrapi (by omega)]),rfl,rfl,rfl,rfl,rfl,trivial⟩,by show sizes.length - (j + 1) < sizes.length - j; omega⟩
     show some (sumB (crcB (crcS (hz hdr ++ sizes.take j)) x)) = some (sumB (crcS (hz hdr ++ sizes.take (j + 1))))
     rw [crcS_snoc hx]
   · have g:sizes.length ≤ j := lt_f g
     have hall:sizes.take j = sizes := List.take_of_length_le g
     conv => whnf
     refine ⟨(),[0,1,2,3,4,5,6,7,8,9,10,11],⟨rfl,⟨rdE (by rfl) (by rfl) (by rfl) (by rfl) m,rfl,show 1 < 12 by decide,show 2 < 12 by decide,rfl,rfl,show 4 < 12 by decide,show 5 < 12 by decide,rfl,rfl,rfl,rfl,rfl,rfl,rfl,rfl,rfl,rfl,?_,rfl,trivial⟩,rfl⟩,rfl,rfl,rfl,rfl,rfl,trivial⟩
     show some (sumB (crcS (hz hdr ++ sizes.take j))) = some (sumB (crcS (hz hdr ++ sizes)))
     rw [hall]
 conv => whnf
 refine Or.inr ⟨Unit,fun _ => ⟨vaE sizes.length segs.length,vaH m hdr sizes segs (crcS (hz hdr ++ sizes ++ segs.flatten))⟩,?_,fun _ => ?_⟩
 · conv => whnf
   refine ⟨{i:Nat // i ≤ segs.length},fun ⟨i,_⟩ => ⟨(47,.o (.c (.vec 8 segs.length))) :: (48,.o (.c (.val (.int .i64 (segs.length:Nat))))) :: (49,.o (.c (.val (.int .i64 (i:Nat))))) :: vaE sizes.length segs.length,vaH m hdr sizes segs (crcS (hz hdr ++ sizes ++ (segs.take i).flatten))⟩,fun i => segs.length - i.1,⟨⟨0,Nat.zero_le _⟩,[0,1,2,3,4,5,6,7,8,9,10,11],⟨rfl,⟨rdE (by rfl) (by rfl) (by rfl) (by rfl) m,rfl,show 1 < 12 by decide,show 2 < 12 by decide,rfl,rfl,show 4 < 12 by decide,show 5 < 12 by decide,rfl,rfl,rfl,rfl,rfl,rfl,rfl,rfl,rfl,rfl,?_,rfl,trivial⟩,rfl⟩,rfl,rfl,rfl,rfl,rfl,rfl,rfl,rfl,trivial⟩,fun ⟨i,hi⟩ => ?_⟩
   · show some (sumB (crcS (hz hdr ++ sizes))) = some (sumB (crcS (hz hdr ++ sizes ++ [])))
     rw [List.append_nil]
   conv => whnf
   refine ⟨fun g => ?_,fun g => ?_⟩
   · have g:i < segs.length := lt_t g
     obtain ⟨seg,hseg⟩:∃ seg,segs[i]? = some seg := ⟨_,List.getElem?_eq_getElem g⟩
     have hsb := hsg seg (List.mem_of_getElem? hseg)
     have hft:(segs.take (i + 1)).flatten = (segs.take i).flatten ++ seg := by
       rw [List.take_add_one,hseg,List.flatten_append]
       simp
     have hrow:(turns (segs.map List.length))[i]? = some (i,seg.length) := by rw [turns_get,List.getElem?_map,hseg]; rfl
     have hfb:Byt ((segs.take i).flatten) := fun y hy => by
       obtain ⟨z,hz1,hz2⟩ := List.mem_flatten.1 hy
       exact (hsg z (List.mem_of_mem_take hz1)).1 y hz2
     conv => whnf
     refine Or.inr ⟨Unit,fun _ => ⟨(47,.o (.c (.vec 8 segs.length))) :: (48,.o (.c (.val (.int .i64 (segs.length:Nat))))) :: (49,.o (.c (.val (.int .i64 (i:Nat))))) :: vaE sizes.length segs.length,vaH m hdr sizes segs (crcS (hz hdr ++ sizes ++ (segs.take (i + 1)).flatten))⟩,?_,fun _ => ?_⟩
     · conv => whnf
       refine ⟨⟨Int.natCast_nonneg i,Int.ofNat_lt.2 g⟩,?_⟩
       conv => whnf
       refine ⟨(i,seg.length),?_⟩
       conv => whnf
       refine ⟨hrow,?_⟩
       conv => whnf
       refine ⟨{k:Nat // k ≤ seg.length},fun ⟨k,_⟩ => ⟨(14,.o (.c (.val (.int .i64 (i:Nat))))) :: (56,.o (.c (.val (.int .i64 (seg.length:Nat))))) :: (57,.o (.c (.val (.int .i64 (k:Nat))))) :: (47,.o (.c (.vec 8 segs.length))) :: (48,.o (.c (.val (.int .i64 (segs.length:Nat))))) :: (49,.o (.c (.val (.int .i64 (i:Nat))))) :: vaE sizes.length segs.length,vaH m hdr sizes segs (crcS (hz hdr ++ sizes ++ (segs.take i).flatten ++ seg.take k))⟩,fun k => seg.length - k.1,⟨⟨0,Nat.zero_le _⟩,[0,1,2,3,4,5,6,7,8,9,10,11],⟨rfl,⟨rdE (by rfl) (by rfl) (by rfl) (by rfl) m,rfl,show 1 < 12 by decide,show 2 < 12 by decide,rfl,rfl,show 4 < 12 by decide,show 5 < 12 by decide,rfl,rfl,rfl,rfl,rfl,rfl,rfl,rfl,rfl,rfl,?_,rfl,trivial⟩,rfl⟩,rfl,rfl,rfl,rfl,rfl,rfl,rfl,rfl,rfl,rfl,rfl,trivial⟩,fun ⟨k,hk⟩ => ?_⟩
       · show some (sumB (crcS (hz hdr ++ sizes ++ (segs.take i).flatten))) = some (sumB (crcS (hz hdr ++ sizes ++ (segs.take i).flatten ++ [])))
         rw [List.append_nil]
       conv => whnf
       refine ⟨fun g2 => ?_,fun g2 => ?_⟩
       · have g2:k < seg.length := lt_t g2
         obtain ⟨x,hx,hxb⟩ := byt_at hsb.1 (i := k) g2
         have hc := crcS_app_lt ((hzb.append hs).append hfb) (hsb.1.take k)
         conv => whnf
         refine ⟨⟨Int.natCast_nonneg i,Int.ofNat_lt.2 g⟩,?_⟩
         conv => whnf
         refine ⟨(i,seg.length),?_⟩
         conv => whnf
         refine ⟨hrow,?_⟩
         conv => whnf
         refine ⟨⟨Int.natCast_nonneg k,Int.ofNat_lt.2 g2⟩,?_⟩
         conv => whnf
         refine ⟨seg,((x:Nat):Int),hseg,hx,?_⟩
         conv => whnf
         refine CallsA.lift (H0 := [sumB (crcS (hz hdr ++ sizes ++ (segs.take i).flatten ++ seg.take k)),.cells 68 [.ptr 2 0],rdB 4 3 5 6 m,tabB tabL,.dead,.dead,.dead]) [11,10,0,3,1,4,5] rfl ⟨rfl,rfl,rfl,rfl,rdE (by rfl) (by rfl) (by rfl) (by rfl) m,rfl,rfl,rfl,show 1 < 12 by decide,show 4 < 12 by decide,show 5 < 12 by decide,trivial⟩ rfl (updSumW w0 m (x := x) (by omega) hc) ?_
         rintro _ _ ⟨rfl,rfl⟩
         conv => whnf
         refine ⟨⟨k + 1,g2⟩,⟨[0,1,2,3,4,5,6,7,8,9,10,11],⟨rfl,⟨rdEE (by rfl) (by rfl) (by rfl) (by rfl) (by rfl) (by rfl) (by rfl) (by rfl) m,rfl,show 1 < 12 by decide,show 2 < 12 by decide,rfl,rfl,show 4 < 12 by decide,show 5 < 12 by decide,rfl,rfl,rfl,rfl,rfl,rfl,rfl,rfl,rfl,rfl,?_,rfl,trivial⟩,rfl⟩,rfl,rfl,eq_i64 (by rw [nadd,nwrapi (by omega)]),rfl,rfl,rfl,rfl,rfl,rfl,rfl,rfl,trivial⟩,by show seg.length - (k + 1) < seg.length - k; omega⟩
         show some (sumB (crcB (crcS (hz hdr ++ sizes ++ (segs.take i).flatten ++ seg.take k)) x)) = some (sumB (crcS (hz hdr ++ sizes ++ (segs.take i).flatten ++ seg.take (k + 1))))
         rw [crcS_snoc hx]
       · have g2:seg.length ≤ k := lt_f g2
         have hall:seg.take k = seg := List.take_of_length_le g2
         conv => whnf
         refine ⟨(),[0,1,2,3,4,5,6,7,8,9,10,11],⟨rfl,⟨rdE (by rfl) (by rfl) (by rfl) (by rfl) m,rfl,show 1 < 12 by decide,show 2 < 12 by decide,rfl,rfl,show 4 < 12 by decide,show 5 < 12 by decide,rfl,rfl,rfl,rfl,rfl,rfl,rfl,rfl,rfl,rfl,?_,rfl,trivial⟩,rfl⟩,rfl,rfl,rfl,rfl,rfl,rfl,rfl,rfl,trivial⟩
         show some (sumB (crcS (hz hdr ++ sizes ++ (segs.take i).flatten ++ seg.take k))) = some (sumB (crcS (hz hdr ++ sizes ++ (segs.take (i + 1)).flatten)))
         rw [hall,hft,List.append_assoc]
     · conv => whnf
       exact ⟨⟨i + 1,g⟩,⟨[0,1,2,3,4,5,6,7,8,9,10,11],⟨rfl,⟨rdE (by rfl) (by rfl) (by rfl) (by rfl) m,rfl,show 1 < 12 by decide,show 2 < 12 by decide,rfl,rfl,show 4 < 12 by decide,show 5 < 12 by decide,rfl,rfl,rfl,rfl,rfl,rfl,rfl,rfl,rfl,rfl,rfl,rfl,trivial⟩,rfl⟩,rfl,rfl,eq_i64 (by rw [nadd,nwrapi (by omega)]),rfl,rfl,rfl,rfl,rfl,trivial⟩,by show segs.length - (i + 1) < segs.length - i; omega⟩
   · have g:segs.length ≤ i := lt_f g
     have hall:segs.take i = segs := List.take_of_length_le g
     conv => whnf
     refine ⟨(),[0,1,2,3,4,5,6,7,8,9,10,11],⟨rfl,⟨rdE (by rfl) (by rfl) (by rfl) (by rfl) m,rfl,show 1 < 12 by decide,show 2 < 12 by decide,rfl,rfl,show 4 < 12 by decide,show 5 < 12 by decide,rfl,rfl,rfl,rfl,rfl,rfl,rfl,rfl,rfl,rfl,?_,rfl,trivial⟩,rfl⟩,rfl,rfl,rfl,rfl,rfl,trivial⟩
     show some (sumB (crcS (hz hdr ++ sizes ++ (segs.take i).flatten))) = some (sumB (crcS (hz hdr ++ sizes ++ segs.flatten)))
     rw [hall]
 obtain ⟨C,hC⟩:∃ C,C = crcS (hz hdr ++ sizes ++ segs.flatten) := ⟨_,rfl⟩
 obtain ⟨D,hD⟩:∃ D,D = le ((hdr.drop 22).take 4) := ⟨_,rfl⟩
 rw [← hC,← hD]
 conv => whnf
 refine Or.inl ?_
 conv => whnf
 refine ⟨⟨by decide,by decide,by decide⟩,.inl ⟨fun c hc1 hc2 => ?_,fun h => absurd h (by decide),fun h => absurd h (by decide)⟩⟩
 conv => whnf
 refine CallsA.lift (H0 := [rowB hdr]) [6] rfl ⟨rfl,rfl,trivial⟩ rfl (le32W w0 hh (o := 22) (c := c - 22) (by omega)) ?_
 rw [← hD]
 rintro _ _ ⟨rfl,rfl⟩
 refine ⟨⟨⟨rfl,rfl⟩,trivial⟩,?_⟩
 conv => whnf
 refine ⟨fun g => ?_,fun g => ?_⟩
 · have g:D ≠ C := bne_t g
   conv => whnf
   refine ⟨.iface t (v 5),?_⟩
   conv => whnf
   refine ⟨he.get 5 (by decide) (by decide) (by decide),?_⟩
   conv => whnf
   refine ⟨rfl,?_⟩
   conv => whnf
   refine Or.inr ⟨[0,1,2,3,4,5,6,7,8,9],.o (.c (.val (.iface t (v 5)))),[rdB 1 3 4 5 m,.dead,.dead,tabB tabL,.dead,.dead,rowB hdr,rowB sizes,outB 9 segs,segB segs],⟨rfl,⟨rdE (by rfl) (by rfl) (by rfl) (by rfl) m,rfl,show 1 < 12 by decide,show 2 < 12 by decide,rfl,rfl,show 4 < 12 by decide,show 5 < 12 by decide,rfl,rfl,rfl,rfl,rfl,rfl,rfl,rfl,trivial⟩,rfl⟩,rfl,?_,rfl⟩
   rw [if_neg g]
 · have g:D = C := bne_f g
   conv => whnf
   refine Or.inr ⟨[0,1,2,3,4,5,6,7,8,9],.o (.c (.val .nilIface)),[rdB 1 3 4 5 m,.dead,.dead,tabB tabL,.dead,.dead,rowB hdr,rowB sizes,outB 9 segs,segB segs],⟨rfl,⟨rdE (by rfl) (by rfl) (by rfl) (by rfl) m,rfl,show 1 < 12 by decide,show 2 < 12 by decide,rfl,rfl,show 4 < 12 by decide,show 5 < 12 by decide,rfl,rfl,rfl,rfl,rfl,rfl,rfl,rfl,trivial⟩,rfl⟩,rfl,?_,rfl⟩
   rw [if_pos g]
end Go.Proofs.YtokkphocaloelaaGreatDoor

end
