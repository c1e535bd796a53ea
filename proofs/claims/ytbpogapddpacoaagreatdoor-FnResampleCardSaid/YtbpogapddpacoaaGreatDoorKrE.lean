/- Joined: ReL, ReM, ReZ, ReN, ReO, ReP, ReQ, ReR, ReS, ReT, ReU, ReV. -/
import Derived.Test.YtbpogapddpacoaaGreatDoorKrD
section
namespace Go.Proofs.YtbpogapddpacoaaGreatDoor
open Go Go.Vc
set_option maxRecDepth 100000
set_option maxHeartbeats 8000000
def at18 (parts:Nat) (co:List Int) (b:List Int) (p:Int):Int :=
 let t:=(p*parts / 65536).toNat
 wb (b.getD 0 0) (co.getD (2+9*t+0) 0)+wb (b.getD 1 0) (co.getD (2+9*t+1) 0)+wb (b.getD 2 0) (co.getD (2+9*t+2) 0)+wb (b.getD 3 0) (co.getD (2+9*t+3) 0)+wb (b.getD 4 0) (co.getD (2+9*t+4) 0)+wb (b.getD 5 0) (co.getD (2+9*t+5) 0)+wb (b.getD 6 0) (co.getD (2+9*t+6) 0)+wb (b.getD 7 0) (co.getD (2+9*t+7) 0)+wb (b.getD 8 0) (co.getD (2+9*t+8) 0)+wb (b.getD 17 0) (co.getD (2+9*(parts - 1 - t)+0) 0)+wb (b.getD 16 0) (co.getD (2+9*(parts - 1 - t)+1) 0)+wb (b.getD 15 0) (co.getD (2+9*(parts - 1 - t)+2) 0)+wb (b.getD 14 0) (co.getD (2+9*(parts - 1 - t)+3) 0)+wb (b.getD 13 0) (co.getD (2+9*(parts - 1 - t)+4) 0)+wb (b.getD 12 0) (co.getD (2+9*(parts - 1 - t)+5) 0)+wb (b.getD 11 0) (co.getD (2+9*(parts - 1 - t)+6) 0)+wb (b.getD 10 0) (co.getD (2+9*(parts - 1 - t)+7) 0)+wb (b.getD 9 0) (co.getD (2+9*(parts - 1 - t)+8) 0)
def at24 (co:List Int) (b:List Int) (_p:Int):Int :=
 wb (b.getD 0 0+b.getD 23 0) (co.getD (2+0) 0)+wb (b.getD 1 0+b.getD 22 0) (co.getD (2+1) 0)+wb (b.getD 2 0+b.getD 21 0) (co.getD (2+2) 0)+wb (b.getD 3 0+b.getD 20 0) (co.getD (2+3) 0)+wb (b.getD 4 0+b.getD 19 0) (co.getD (2+4) 0)+wb (b.getD 5 0+b.getD 18 0) (co.getD (2+5) 0)+wb (b.getD 6 0+b.getD 17 0) (co.getD (2+6) 0)+wb (b.getD 7 0+b.getD 16 0) (co.getD (2+7) 0)+wb (b.getD 8 0+b.getD 15 0) (co.getD (2+8) 0)+wb (b.getD 9 0+b.getD 14 0) (co.getD (2+9) 0)+wb (b.getD 10 0+b.getD 13 0) (co.getD (2+10) 0)+wb (b.getD 11 0+b.getD 12 0) (co.getD (2+11) 0)
theorem sum18 (a0 a1 a2 a3 a4 a5 a6 a7 a8 a9 a10 a11 a12 a13 a14 a15 a16 a17:Int):IntKind.i32.wrap (IntKind.i32.wrap (IntKind.i32.wrap (IntKind.i32.wrap (IntKind.i32.wrap (IntKind.i32.wrap (IntKind.i32.wrap (IntKind.i32.wrap (IntKind.i32.wrap (IntKind.i32.wrap (IntKind.i32.wrap (IntKind.i32.wrap (IntKind.i32.wrap (IntKind.i32.wrap (IntKind.i32.wrap (IntKind.i32.wrap (IntKind.i32.wrap (a0+a1)+a2)+a3)+a4)+a5)+a6)+a7)+a8)+a9)+a10)+a11)+a12)+a13)+a14)+a15)+a16)+a17)=IntKind.i32.wrap (a0+a1+a2+a3+a4+a5+a6+a7+a8+a9+a10+a11+a12+a13+a14+a15+a16+a17):=by
 simp only [wadd]
theorem sum12 (a0 a1 a2 a3 a4 a5 a6 a7 a8 a9 a10 a11:Int):IntKind.i32.wrap (IntKind.i32.wrap (IntKind.i32.wrap (IntKind.i32.wrap (IntKind.i32.wrap (IntKind.i32.wrap (IntKind.i32.wrap (IntKind.i32.wrap (IntKind.i32.wrap (IntKind.i32.wrap (IntKind.i32.wrap (a0+a1)+a2)+a3)+a4)+a5)+a6)+a7)+a8)+a9)+a10)+a11)=IntKind.i32.wrap (a0+a1+a2+a3+a4+a5+a6+a7+a8+a9+a10+a11):=by
 simp only [wadd]
theorem wb_bd' {a b:Int} (ha:iB 150000000 a) (hb:S16 b):iB 75000001 (wb a b):=wb_bd ha hb
theorem wb_bd2 {a c b:Int} (ha:iB 150000000 a) (hc:iB 150000000 c) (hb:S16 b):iB 150000001 (wb (a+c) b):=wb_bd (A:=300000000) (by unfold iB at *; omega) hb
theorem at18_ok {parts:Nat} {co b:List Int} {t:Nat} (hb:∀ i,iB 150000000 (b.getD i 0)) (hc:∀ i,S16 (co.getD i 0)) {p:Int} (hp:(p*parts / 65536).toNat=t):iB 1500000000 (at18 parts co b p):=by
 unfold at18
 rw [hp]
 have e0:=wb_bd' (hb 0) (hc (2+9*t+0))
 have e1:=wb_bd' (hb 1) (hc (2+9*t+1))
 have e2:=wb_bd' (hb 2) (hc (2+9*t+2))
 have e3:=wb_bd' (hb 3) (hc (2+9*t+3))
 have e4:=wb_bd' (hb 4) (hc (2+9*t+4))
 have e5:=wb_bd' (hb 5) (hc (2+9*t+5))
 have e6:=wb_bd' (hb 6) (hc (2+9*t+6))
 have e7:=wb_bd' (hb 7) (hc (2+9*t+7))
 have e8:=wb_bd' (hb 8) (hc (2+9*t+8))
 have e9:=wb_bd' (hb 17) (hc (2+9*(parts - 1 - t)+0))
 have e10:=wb_bd' (hb 16) (hc (2+9*(parts - 1 - t)+1))
 have e11:=wb_bd' (hb 15) (hc (2+9*(parts - 1 - t)+2))
 have e12:=wb_bd' (hb 14) (hc (2+9*(parts - 1 - t)+3))
 have e13:=wb_bd' (hb 13) (hc (2+9*(parts - 1 - t)+4))
 have e14:=wb_bd' (hb 12) (hc (2+9*(parts - 1 - t)+5))
 have e15:=wb_bd' (hb 11) (hc (2+9*(parts - 1 - t)+6))
 have e16:=wb_bd' (hb 10) (hc (2+9*(parts - 1 - t)+7))
 have e17:=wb_bd' (hb 9) (hc (2+9*(parts - 1 - t)+8))
 unfold iB at e0 e1 e2 e3 e4 e5 e6 e7 e8 e9 e10 e11 e12 e13 e14 e15 e16 e17 ⊢
 simp only
 omega
theorem at24_ok {co b:List Int} (hb:∀ i,iB 150000000 (b.getD i 0)) (hc:∀ i,S16 (co.getD i 0)) {p:Int}:iB 1900000000 (at24 co b p):=by
 unfold at24
 have e0:=wb_bd2 (hb 0) (hb 23) (hc (2+0))
 have e1:=wb_bd2 (hb 1) (hb 22) (hc (2+1))
 have e2:=wb_bd2 (hb 2) (hb 21) (hc (2+2))
 have e3:=wb_bd2 (hb 3) (hb 20) (hc (2+3))
 have e4:=wb_bd2 (hb 4) (hb 19) (hc (2+4))
 have e5:=wb_bd2 (hb 5) (hb 18) (hc (2+5))
 have e6:=wb_bd2 (hb 6) (hb 17) (hc (2+6))
 have e7:=wb_bd2 (hb 7) (hb 16) (hc (2+7))
 have e8:=wb_bd2 (hb 8) (hb 15) (hc (2+8))
 have e9:=wb_bd2 (hb 9) (hb 14) (hc (2+9))
 have e10:=wb_bd2 (hb 10) (hb 13) (hc (2+10))
 have e11:=wb_bd2 (hb 11) (hb 12) (hc (2+11))
 unfold iB at e0 e1 e2 e3 e4 e5 e6 e7 e8 e9 e10 e11 ⊢
 omega
theorem getD_iB {A:Int} (hA:0≤A) {l:List Int} (h:∀ x∈l,iB A x) (i:Nat):iB A (l.getD i 0):=by
 rw [List.getD_eq_getElem?_getD]
 cases hi:l[i]? with
 | none=>unfold iB; simp; omega
 | some x=>exact h x (List.mem_of_getElem? hi)
theorem dropF_get {α:Type}:∀ {n:Nat} {l:List α} {x:α} {k:List α → Prop},l[n]? = some x→k [x]→dropF n l fun l=>takeF 1 l k
 | 0,[],_,_,h,_=>by simp at h
 | 0,y::r,x,k,h,hk=>by
  simp at h
  subst h
  exact hk
 | n+1,[],_,_,h,_=>by simp at h
 | n+1,y::r,x,k,h,hk=>dropF_get (n:=n) (l:=r) (by simpa using h) hk
theorem mulWBW' (w0:World) {a b:Int} (ha:I32 a) (hb:S16 b):CallsA Tryz.prog w0 64 [.c (.val (.int .i32 a)),.c (.val (.int .i32 (IntKind.i32.wrap b)))] [] fun r H=>r = .o (.c (.val (.int .i32 (wb a b))))∧H=[]:=by
 have h:=mulWBW w0 (a:=a) (b:=b) ha
 rw [wi16 hb] at h
 rw [wi32 (n:=b) (by unfold S16 at hb; omega)]
 exact h
theorem mlaWBW' (w0:World) {a b c:Int} (hb:I32 b) (hc:S16 c):CallsA Tryz.prog w0 67 [.c (.val (.int .i32 a)),.c (.val (.int .i32 b)),.c (.val (.int .i32 (IntKind.i32.wrap c)))] [] fun r H=>r = .o (.c (.val (.int .i32 (IntKind.i32.wrap (a+wb b c)))))∧H=[]:=by
 have h:=mlaWBW w0 (a:=a) (b:=b) (c:=c) hb
 rw [wi16 hc] at h
 rw [wi32 (n:=c) (by unfold S16 at hc; omega)]
 exact h
theorem embD {tl:List CV} (h:Nat6 tl) {z:Z6} {o o' b co:List Int} (ho:o=o') :
 EmbH 6 [0,1,2,3,4,5] [zB z tl,sB o,bB b,kB co,.dead,.dead] [zB z tl,sB o',bB b,kB co,.dead,.dead]:=by
 subst ho
 exact ⟨rfl,⟨congrArg (fun l=>some (Blk.cells 46 (ci .i32 z.a::ci .i32 z.b::ci .i32 z.c::ci .i32 z.d::ci .i32 z.e::ci .i32 z.f::l))) h.symm,rfl,rfl,rfl,rfl,rfl,rfl,rfl,(by decide:4<6),(by decide:5<6),trivial⟩,rfl⟩
def diSt (it FL FC oo on oc BL BC lim r:Nat) (z:Z6) (tl:List CV) (out buf co:List Int) (at_:List Int→Int→Int) (j:Nat):S :=
 ⟨[(0,.o (.c (.ptr 0 0))),(1,.o (.c (.sli 1 1 oo on oc))),(2,.o (.c (.sli 2 1 0 BL BC))),(3,.o (.c (.sli 3 1 2 FL FC))),(4,.o (.c (.val (.int .i32 lim)))),(5,.o (.c (.val (.int .i32 r)))),(13,.o (.c (.val (.int .i64 j)))),(it,.o (.c (.val (.int .i32 ((j*r:Nat):Int)))))],
  [zB z tl,sB (wr out oo ((firL at_ 6 r lim buf).take j)),bB buf,kB co,.dead,.dead]⟩
theorem sb_ {j q n BL:Nat} (h:q+n≤BL) (hj:j<n):j<BL - q:=by omega
theorem sl_ {j n F:Nat} (h:9*n+9≤F) (hj:j<9):j<F - 9*n:=by omega
theorem sl2_ {j n F:Nat} (h:9*n+9≤F) (hj:j<9):2+9*n+j<2+F:=by omega
theorem sk_ {j F:Nat} (h:F=12) (hj:j<12):j<F:=by omega
theorem sk2_ {j F:Nat} (h:F=12) (hj:j<12):2+j<2+F:=by omega
theorem downInt18W (w0:World) {parts FL FC oo on oc BL BC lim r:Nat} {z:Z6} {tl:List CV} {out buf co:List Int} (hord:tl[95]? = some (ci .i64 ((18:Nat):Int))) (hfr:tl[96]? = some (ci .i64 ((parts:Nat):Int))) (hp:parts=2∨parts=3) (hFL:FL=9*parts) (hq:lim / 65536+18≤BL)
 (_hFC:FL≤FC) (hcl:2+FL≤co.length) (hr:0<r) (hlr:lim+r<1000000000) (hBL:BL≤buf.length) (_hBC:BL≤BC) (hbuf:∀ x∈buf,iB 150000000 x) (hco:∀ x∈co,S16 x) (htl:Nat6 tl)
 (hon:cntI lim r≤on) (hoo:oo+cntI lim r≤out.length) :
 CallsA Tryz.prog w0 71 [.c (.ptr 0 0),.c (.sli 1 1 oo on oc),.c (.sli 2 1 0 BL BC),.c (.sli 3 1 2 FL FC),.c (.val (.int .i32 lim)),.c (.val (.int .i32 r))] [zB z tl,sB out,bB buf,kB co,.dead,.dead]
  fun v H=>v = .o (.c (.val (.int .i64 (cntI lim r))))∧H=[zB z tl,sB (wr out oo (firL (at18 parts co) 6 r lim buf)),bB buf,kB co,.dead,.dead]:=by
 refine callsA_of_ev c71_ ?_
 conv=>whnf
 refine Or.inl ?_
 conv=>whnf
 refine dropF_get hord ?_
 conv=>whnf
 refine ⟨fun _=>?_,fun g=>absurd g (by decide)⟩
 conv=>whnf
 refine ⟨{j:Nat // j≤cntI lim r},fun ⟨j,_⟩=>diSt 14 FL FC oo on oc BL BC lim r z tl out buf co (at18 parts co) j,fun j=>cntI lim r - j.1,⟨⟨0,Nat.zero_le _⟩,[0,1,2,3,4,5],embD htl (wr_nil out oo),rfl,rfl,rfl,rfl,rfl,rfl,rfl,congrArg (fun z=>some (AV.o (.c (.val (.int .i32 z))))) (by simp),trivial⟩,fun ⟨j,hj⟩ => ?_⟩
 conv=>whnf
 refine ⟨fun h3 => ?_,fun h3 => ?_⟩
 ·have h3:j*r<lim:=lt_t h3
  have h4:j<cntI lim r:=(cntI_lt hr).2 h3
  have hj1:j≤j*r:=Nat.le_mul_of_pos_right _ hr
  have hjr:(j+1)*r=j*r+r:=Nat.succ_mul j r
  obtain ⟨q,hqe⟩:∃ q,q=j*r / 65536:=⟨_,rfl⟩
  have hqq:q+18≤BL:=by
   have:j*r / 65536≤lim / 65536:=Nat.div_le_div_right (by omega)
   omega
  have hb:∀ i,i<18→buf[0+q+i]? = some ((buf.drop q).getD i 0):=by
   intro i hi
   rw [List.getD_eq_getElem?_getD,List.getElem?_drop,Nat.zero_add,List.getElem?_eq_getElem (by omega)]
   rfl
  have hc:∀ i,i<2+FL→co[i]? = some (co.getD i 0):=by
   intro i hi
   rw [List.getD_eq_getElem?_getD,List.getElem?_eq_getElem (by omega)]
   rfl
  have hbS:∀ i,iB 150000000 ((buf.drop q).getD i 0):=getD_iB (by omega) fun x hx=>hbuf x (List.mem_of_mem_drop hx)
  have hcS:∀ i,S16 (co.getD i 0):=getD_S16 hco
  have hbI:∀ i,I32 ((buf.drop q).getD i 0):=fun i=>iB_I32 (hbS i) (by omega)
  have hsn:=firL_snoc (at18 parts co) 6 r lim buf h4
  rw [← hqe] at hsn
  have hlen:((firL (at18 parts co) 6 r lim buf).take j).length=j:=by rw [List.length_take,firL_length]; omega
  obtain ⟨t,hte⟩:∃ t,t=j*r % 65536*parts / 65536:=⟨_,rfl⟩
  have ht:t<parts:=by rcases hp with rfl | rfl <;> omega
  have hT0:IntKind.i32.wrap ((parts:Nat):Int)=(parts:Int):=wi32 (by omega)
  have hTt:wb ((j*r % 65536:Nat):Int) (IntKind.i16.wrap ((parts:Nat):Int))=(t:Int):=by
   rw [wi16 (by unfold S16; omega)]
   unfold wb
   rw [Int.fdiv_eq_ediv_of_nonneg _ (by omega)]
   rcases hp with rfl | rfl <;> omega
  have h9:IntKind.i32.wrap (((9:Nat):Int)*(t:Int))=((9*t:Nat):Int):=by rw [wi32 (by omega)]; omega
  have h9b:IntKind.i32.wrap (((9:Nat):Int)*IntKind.i32.wrap (IntKind.i32.wrap ((parts:Int) - ((1:Nat):Int)) - (t:Int)))=((9*(parts - 1 - t):Nat):Int):=by
   rw [wi32 (n:=(parts:Int) - ((1:Nat):Int)) (by omega),wi32 (n:=(parts:Int) - ((1:Nat):Int) - (t:Int)) (by omega),wi32 (by omega)]
   omega
  obtain ⟨u,hue⟩:∃ u,u=parts - 1 - t:=⟨_,rfl⟩
  have ht9:9*t+9≤FL:=by omega
  have hu9:9*u+9≤FL:=by omega
  rw [← hue] at h9b
  have hat:(((j*r % 65536:Nat):Int)*parts / 65536).toNat=t:=by rcases hp with rfl | rfl <;> omega
  have hbd:=at18_ok (b:=buf.drop q) hbS hcS hat
  have hval:at18 parts co (buf.drop q) ((j*r % 65536:Nat):Int)=wb ((buf.drop q).getD 0 0) (co.getD (2+9*t+0) 0)+wb ((buf.drop q).getD 1 0) (co.getD (2+9*t+1) 0)+wb ((buf.drop q).getD 2 0) (co.getD (2+9*t+2) 0)+wb ((buf.drop q).getD 3 0) (co.getD (2+9*t+3) 0)+wb ((buf.drop q).getD 4 0) (co.getD (2+9*t+4) 0)+wb ((buf.drop q).getD 5 0) (co.getD (2+9*t+5) 0)+wb ((buf.drop q).getD 6 0) (co.getD (2+9*t+6) 0)+wb ((buf.drop q).getD 7 0) (co.getD (2+9*t+7) 0)+wb ((buf.drop q).getD 8 0) (co.getD (2+9*t+8) 0)+wb ((buf.drop q).getD 17 0) (co.getD (2+9*u+0) 0)+wb ((buf.drop q).getD 16 0) (co.getD (2+9*u+1) 0)+wb ((buf.drop q).getD 15 0) (co.getD (2+9*u+2) 0)+wb ((buf.drop q).getD 14 0) (co.getD (2+9*u+3) 0)+wb ((buf.drop q).getD 13 0) (co.getD (2+9*u+4) 0)+wb ((buf.drop q).getD 12 0) (co.getD (2+9*u+5) 0)+wb ((buf.drop q).getD 11 0) (co.getD (2+9*u+6) 0)+wb ((buf.drop q).getD 10 0) (co.getD (2+9*u+7) 0)+wb ((buf.drop q).getD 9 0) (co.getD (2+9*u+8) 0):=by
   unfold at18
   simp only [hat,← hue]
  conv=>whnf
  rw [hi16 (by omega),← hqe]
  refine ⟨⟨by omega,by omega,by omega⟩,?_⟩
  conv=>whnf
  refine ⟨fun _=>?_,fun h1 h2=>absurd h1 (by omega)⟩
  conv=>whnf
  rw [low16 (by omega)]
  refine dropF_get hfr ?_
  conv=>whnf
  rw [hT0]
  refine callV (mulWBW w0 (a:=((j*r % 65536:Nat):Int)) (by unfold I32; omega)) rfl ?_
  conv=>whnf
  rw [hTt]
  conv=>whnf
  rw [h9]
  refine ⟨⟨by omega,by omega,by omega⟩,?_⟩
  conv=>whnf
  refine ⟨fun _=>?_,fun h1 h2=>absurd h1 (by omega)⟩
  conv=>whnf
  dsimp -iota only
  refine ⟨⟨by decide,Int.ofNat_lt.2 (sb_ hqq (by decide:0<_))⟩,?_⟩
  conv=>whnf
  refine ⟨_,hb 0 (by decide),?_⟩
  conv=>whnf
  refine ⟨⟨by decide,Int.ofNat_lt.2 (sl_ ht9 (by decide:0<9))⟩,?_⟩
  conv=>whnf
  refine ⟨_,hc (2+9*t+0) (sl2_ ht9 (by decide:0<9)),?_⟩
  conv=>whnf
  refine callV (mulWBW' w0 (hbI 0) (hcS (2+9*t+0))) rfl ?_
  conv=>whnf
  refine ⟨trivial,?_⟩
  conv=>whnf
  dsimp -iota only
  refine ⟨⟨by decide,Int.ofNat_lt.2 (sb_ hqq (by decide:1<_))⟩,?_⟩
  conv=>whnf
  refine ⟨_,hb 1 (by decide),?_⟩
  conv=>whnf
  refine ⟨⟨by decide,Int.ofNat_lt.2 (sl_ ht9 (by decide:1<9))⟩,?_⟩
  conv=>whnf
  refine ⟨_,hc (2+9*t+1) (sl2_ ht9 (by decide:1<9)),?_⟩
  conv=>whnf
  refine callV (mlaWBW' w0 (hbI 1) (hcS (2+9*t+1))) rfl ?_
  conv=>whnf
  refine ⟨trivial,?_⟩
  conv=>whnf
  dsimp -iota only
  refine ⟨⟨by decide,Int.ofNat_lt.2 (sb_ hqq (by decide:2<_))⟩,?_⟩
  conv=>whnf
  refine ⟨_,hb 2 (by decide),?_⟩
  conv=>whnf
  refine ⟨⟨by decide,Int.ofNat_lt.2 (sl_ ht9 (by decide:2<9))⟩,?_⟩
  conv=>whnf
  refine ⟨_,hc (2+9*t+2) (sl2_ ht9 (by decide:2<9)),?_⟩
  conv=>whnf
  refine callV (mlaWBW' w0 (hbI 2) (hcS (2+9*t+2))) rfl ?_
  conv=>whnf
  refine ⟨trivial,?_⟩
  conv=>whnf
  dsimp -iota only
  refine ⟨⟨by decide,Int.ofNat_lt.2 (sb_ hqq (by decide:3<_))⟩,?_⟩
  conv=>whnf
  refine ⟨_,hb 3 (by decide),?_⟩
  conv=>whnf
  refine ⟨⟨by decide,Int.ofNat_lt.2 (sl_ ht9 (by decide:3<9))⟩,?_⟩
  conv=>whnf
  refine ⟨_,hc (2+9*t+3) (sl2_ ht9 (by decide:3<9)),?_⟩
  conv=>whnf
  refine callV (mlaWBW' w0 (hbI 3) (hcS (2+9*t+3))) rfl ?_
  conv=>whnf
  refine ⟨trivial,?_⟩
  conv=>whnf
  dsimp -iota only
  refine ⟨⟨by decide,Int.ofNat_lt.2 (sb_ hqq (by decide:4<_))⟩,?_⟩
  conv=>whnf
  refine ⟨_,hb 4 (by decide),?_⟩
  conv=>whnf
  refine ⟨⟨by decide,Int.ofNat_lt.2 (sl_ ht9 (by decide:4<9))⟩,?_⟩
  conv=>whnf
  refine ⟨_,hc (2+9*t+4) (sl2_ ht9 (by decide:4<9)),?_⟩
  conv=>whnf
  refine callV (mlaWBW' w0 (hbI 4) (hcS (2+9*t+4))) rfl ?_
  conv=>whnf
  refine ⟨trivial,?_⟩
  conv=>whnf
  dsimp -iota only
  refine ⟨⟨by decide,Int.ofNat_lt.2 (sb_ hqq (by decide:5<_))⟩,?_⟩
  conv=>whnf
  refine ⟨_,hb 5 (by decide),?_⟩
  conv=>whnf
  refine ⟨⟨by decide,Int.ofNat_lt.2 (sl_ ht9 (by decide:5<9))⟩,?_⟩
  conv=>whnf
  refine ⟨_,hc (2+9*t+5) (sl2_ ht9 (by decide:5<9)),?_⟩
  conv=>whnf
  refine callV (mlaWBW' w0 (hbI 5) (hcS (2+9*t+5))) rfl ?_
  conv=>whnf
  refine ⟨trivial,?_⟩
  conv=>whnf
  dsimp -iota only
  refine ⟨⟨by decide,Int.ofNat_lt.2 (sb_ hqq (by decide:6<_))⟩,?_⟩
  conv=>whnf
  refine ⟨_,hb 6 (by decide),?_⟩
  conv=>whnf
  refine ⟨⟨by decide,Int.ofNat_lt.2 (sl_ ht9 (by decide:6<9))⟩,?_⟩
  conv=>whnf
  refine ⟨_,hc (2+9*t+6) (sl2_ ht9 (by decide:6<9)),?_⟩
  conv=>whnf
  refine callV (mlaWBW' w0 (hbI 6) (hcS (2+9*t+6))) rfl ?_
  conv=>whnf
  refine ⟨trivial,?_⟩
  conv=>whnf
  dsimp -iota only
  refine ⟨⟨by decide,Int.ofNat_lt.2 (sb_ hqq (by decide:7<_))⟩,?_⟩
  conv=>whnf
  refine ⟨_,hb 7 (by decide),?_⟩
  conv=>whnf
  refine ⟨⟨by decide,Int.ofNat_lt.2 (sl_ ht9 (by decide:7<9))⟩,?_⟩
  conv=>whnf
  refine ⟨_,hc (2+9*t+7) (sl2_ ht9 (by decide:7<9)),?_⟩
  conv=>whnf
  refine callV (mlaWBW' w0 (hbI 7) (hcS (2+9*t+7))) rfl ?_
  conv=>whnf
  refine ⟨trivial,?_⟩
  conv=>whnf
  dsimp -iota only
  refine ⟨⟨by decide,Int.ofNat_lt.2 (sb_ hqq (by decide:8<_))⟩,?_⟩
  conv=>whnf
  refine ⟨_,hb 8 (by decide),?_⟩
  conv=>whnf
  refine ⟨⟨by decide,Int.ofNat_lt.2 (sl_ ht9 (by decide:8<9))⟩,?_⟩
  conv=>whnf
  refine ⟨_,hc (2+9*t+8) (sl2_ ht9 (by decide:8<9)),?_⟩
  conv=>whnf
  refine callV (mlaWBW' w0 (hbI 8) (hcS (2+9*t+8))) rfl ?_
  conv=>whnf
  refine ⟨trivial,?_⟩
  conv=>whnf
  dsimp -iota only
  conv=>whnf
  refine dropF_get hfr ?_
  conv=>whnf
  rw [hT0,h9b]
  refine ⟨⟨by omega,by omega,by omega⟩,?_⟩
  conv=>whnf
  refine ⟨fun _=>?_,fun h1 h2=>absurd h1 (by omega)⟩
  conv=>whnf
  dsimp -iota only
  refine ⟨⟨by decide,Int.ofNat_lt.2 (sb_ hqq (by decide:17<_))⟩,?_⟩
  conv=>whnf
  refine ⟨_,hb 17 (by decide),?_⟩
  conv=>whnf
  refine ⟨⟨by decide,Int.ofNat_lt.2 (sl_ hu9 (by decide:0<9))⟩,?_⟩
  conv=>whnf
  refine ⟨_,hc (2+9*u+0) (sl2_ hu9 (by decide:0<9)),?_⟩
  conv=>whnf
  refine callV (mlaWBW' w0 (hbI 17) (hcS (2+9*u+0))) rfl ?_
  conv=>whnf
  refine ⟨trivial,?_⟩
  conv=>whnf
  dsimp -iota only
  refine ⟨⟨by decide,Int.ofNat_lt.2 (sb_ hqq (by decide:16<_))⟩,?_⟩
  conv=>whnf
  refine ⟨_,hb 16 (by decide),?_⟩
  conv=>whnf
  refine ⟨⟨by decide,Int.ofNat_lt.2 (sl_ hu9 (by decide:1<9))⟩,?_⟩
  conv=>whnf
  refine ⟨_,hc (2+9*u+1) (sl2_ hu9 (by decide:1<9)),?_⟩
  conv=>whnf
  refine callV (mlaWBW' w0 (hbI 16) (hcS (2+9*u+1))) rfl ?_
  conv=>whnf
  refine ⟨trivial,?_⟩
  conv=>whnf
  dsimp -iota only
  refine ⟨⟨by decide,Int.ofNat_lt.2 (sb_ hqq (by decide:15<_))⟩,?_⟩
  conv=>whnf
  refine ⟨_,hb 15 (by decide),?_⟩
  conv=>whnf
  refine ⟨⟨by decide,Int.ofNat_lt.2 (sl_ hu9 (by decide:2<9))⟩,?_⟩
  conv=>whnf
  refine ⟨_,hc (2+9*u+2) (sl2_ hu9 (by decide:2<9)),?_⟩
  conv=>whnf
  refine callV (mlaWBW' w0 (hbI 15) (hcS (2+9*u+2))) rfl ?_
  conv=>whnf
  refine ⟨trivial,?_⟩
  conv=>whnf
  dsimp -iota only
  refine ⟨⟨by decide,Int.ofNat_lt.2 (sb_ hqq (by decide:14<_))⟩,?_⟩
  conv=>whnf
  refine ⟨_,hb 14 (by decide),?_⟩
  conv=>whnf
  refine ⟨⟨by decide,Int.ofNat_lt.2 (sl_ hu9 (by decide:3<9))⟩,?_⟩
  conv=>whnf
  refine ⟨_,hc (2+9*u+3) (sl2_ hu9 (by decide:3<9)),?_⟩
  conv=>whnf
  refine callV (mlaWBW' w0 (hbI 14) (hcS (2+9*u+3))) rfl ?_
  conv=>whnf
  refine ⟨trivial,?_⟩
  conv=>whnf
  dsimp -iota only
  refine ⟨⟨by decide,Int.ofNat_lt.2 (sb_ hqq (by decide:13<_))⟩,?_⟩
  conv=>whnf
  refine ⟨_,hb 13 (by decide),?_⟩
  conv=>whnf
  refine ⟨⟨by decide,Int.ofNat_lt.2 (sl_ hu9 (by decide:4<9))⟩,?_⟩
  conv=>whnf
  refine ⟨_,hc (2+9*u+4) (sl2_ hu9 (by decide:4<9)),?_⟩
  conv=>whnf
  refine callV (mlaWBW' w0 (hbI 13) (hcS (2+9*u+4))) rfl ?_
  conv=>whnf
  refine ⟨trivial,?_⟩
  conv=>whnf
  dsimp -iota only
  refine ⟨⟨by decide,Int.ofNat_lt.2 (sb_ hqq (by decide:12<_))⟩,?_⟩
  conv=>whnf
  refine ⟨_,hb 12 (by decide),?_⟩
  conv=>whnf
  refine ⟨⟨by decide,Int.ofNat_lt.2 (sl_ hu9 (by decide:5<9))⟩,?_⟩
  conv=>whnf
  refine ⟨_,hc (2+9*u+5) (sl2_ hu9 (by decide:5<9)),?_⟩
  conv=>whnf
  refine callV (mlaWBW' w0 (hbI 12) (hcS (2+9*u+5))) rfl ?_
  conv=>whnf
  refine ⟨trivial,?_⟩
  conv=>whnf
  dsimp -iota only
  refine ⟨⟨by decide,Int.ofNat_lt.2 (sb_ hqq (by decide:11<_))⟩,?_⟩
  conv=>whnf
  refine ⟨_,hb 11 (by decide),?_⟩
  conv=>whnf
  refine ⟨⟨by decide,Int.ofNat_lt.2 (sl_ hu9 (by decide:6<9))⟩,?_⟩
  conv=>whnf
  refine ⟨_,hc (2+9*u+6) (sl2_ hu9 (by decide:6<9)),?_⟩
  conv=>whnf
  refine callV (mlaWBW' w0 (hbI 11) (hcS (2+9*u+6))) rfl ?_
  conv=>whnf
  refine ⟨trivial,?_⟩
  conv=>whnf
  dsimp -iota only
  refine ⟨⟨by decide,Int.ofNat_lt.2 (sb_ hqq (by decide:10<_))⟩,?_⟩
  conv=>whnf
  refine ⟨_,hb 10 (by decide),?_⟩
  conv=>whnf
  refine ⟨⟨by decide,Int.ofNat_lt.2 (sl_ hu9 (by decide:7<9))⟩,?_⟩
  conv=>whnf
  refine ⟨_,hc (2+9*u+7) (sl2_ hu9 (by decide:7<9)),?_⟩
  conv=>whnf
  refine callV (mlaWBW' w0 (hbI 10) (hcS (2+9*u+7))) rfl ?_
  conv=>whnf
  refine ⟨trivial,?_⟩
  conv=>whnf
  dsimp -iota only
  refine ⟨⟨by decide,Int.ofNat_lt.2 (sb_ hqq (by decide:9<_))⟩,?_⟩
  conv=>whnf
  refine ⟨_,hb 9 (by decide),?_⟩
  conv=>whnf
  refine ⟨⟨by decide,Int.ofNat_lt.2 (sl_ hu9 (by decide:8<9))⟩,?_⟩
  conv=>whnf
  refine ⟨_,hc (2+9*u+8) (sl2_ hu9 (by decide:8<9)),?_⟩
  conv=>whnf
  refine callV (mlaWBW' w0 (hbI 9) (hcS (2+9*u+8))) rfl ?_
  conv=>whnf
  refine ⟨trivial,?_⟩
  conv=>whnf
  dsimp -iota only
  rw [sum18,← hval,wi32 (n:=at18 parts co (buf.drop q) ((j*r % 65536:Nat):Int)) (by unfold iB at hbd; omega)]
  generalize at18 parts co (buf.drop q) ((j*r % 65536:Nat):Int)=v at *
  refine callV (rsrW w0 (k:=6) (iB_I32 hbd (by omega)) (by omega) (by omega)) rfl ?_
  conv=>whnf
  refine callV (sat16W w0) rfl ?_
  conv=>whnf
  dsimp -iota only
  refine ⟨⟨Int.natCast_nonneg _,Int.ofNat_lt.2 (by omega:j<on)⟩,?_⟩
  conv=>whnf
  obtain ⟨g0,hg0⟩:=wr_get out oo ((firL (at18 parts co) 6 r lim buf).take j) (oo+j) (by omega) (by omega)
  refine ⟨g0,satI (rnd v 6),hg0,rfl,?_⟩
  rw [show ((j:Int)).toNat=j from rfl,wr_set out oo ((firL (at18 parts co) 6 r lim buf).take j) (oo+j) _ (by omega) (by omega)]
  conv=>whnf
  rw [ninc (by omega),show IntKind.i32.wrap (((j*r:Nat):Int)+(r:Int))=(((j+1)*r:Nat):Int) from by rw [wi32 (by omega)]; omega]
  have e:=embD (z:=z) (b:=buf) (co:=co) htl (congrArg (wr out oo) hsn)
  refine ⟨⟨j+1,h4⟩,⟨[0,1,2,3,4,5],?_,rfl,rfl,rfl,rfl,rfl,rfl,rfl,rfl,trivial⟩,Nat.sub_lt_sub_left h4 (Nat.lt_succ_self j)⟩
  exact e
 have h3:lim≤j*r:=lt_f h3
 have h4:¬ j<cntI lim r:=fun h=>absurd ((cntI_lt hr).1 h) (by omega)
 have h5:j=cntI lim r:=by omega
 subst h5
 conv=>whnf
 refine Or.inl ⟨rfl,?_⟩
 rw [List.take_of_length_le (by rw [firL_length]; exact Nat.le_refl _)]
theorem downInt24W (w0:World) {FL FC oo on oc BL BC lim r:Nat} {z:Z6} {tl:List CV} {out buf co:List Int} (hord:tl[95]? = some (ci .i64 ((24:Nat):Int))) (hFL:FL=12) (hq:lim / 65536+24≤BL)
 (_hFC:FL≤FC) (hcl:2+FL≤co.length) (hr:0<r) (hlr:lim+r<1000000000) (hBL:BL≤buf.length) (_hBC:BL≤BC) (hbuf:∀ x∈buf,iB 150000000 x) (hco:∀ x∈co,S16 x) (htl:Nat6 tl)
 (hon:cntI lim r≤on) (hoo:oo+cntI lim r≤out.length) :
 CallsA Tryz.prog w0 71 [.c (.ptr 0 0),.c (.sli 1 1 oo on oc),.c (.sli 2 1 0 BL BC),.c (.sli 3 1 2 FL FC),.c (.val (.int .i32 lim)),.c (.val (.int .i32 r))] [zB z tl,sB out,bB buf,kB co,.dead,.dead]
  fun v H=>v = .o (.c (.val (.int .i64 (cntI lim r))))∧H=[zB z tl,sB (wr out oo (firL (at24 co) 6 r lim buf)),bB buf,kB co,.dead,.dead]:=by
 refine callsA_of_ev c71_ ?_
 conv=>whnf
 refine Or.inl ?_
 conv=>whnf
 refine dropF_get hord ?_
 conv=>whnf
 refine ⟨fun g=>absurd g (by decide),fun _=>?_⟩
 conv=>whnf
 refine ⟨fun _=>?_,fun g=>absurd g (by decide)⟩
 conv=>whnf
 refine ⟨{j:Nat // j≤cntI lim r},fun ⟨j,_⟩=>diSt 19 FL FC oo on oc BL BC lim r z tl out buf co (at24 co) j,fun j=>cntI lim r - j.1,⟨⟨0,Nat.zero_le _⟩,[0,1,2,3,4,5],embD htl (wr_nil out oo),rfl,rfl,rfl,rfl,rfl,rfl,rfl,congrArg (fun z=>some (AV.o (.c (.val (.int .i32 z))))) (by simp),trivial⟩,fun ⟨j,hj⟩ => ?_⟩
 conv=>whnf
 refine ⟨fun h3 => ?_,fun h3 => ?_⟩
 ·have h3:j*r<lim:=lt_t h3
  have h4:j<cntI lim r:=(cntI_lt hr).2 h3
  have hj1:j≤j*r:=Nat.le_mul_of_pos_right _ hr
  have hjr:(j+1)*r=j*r+r:=Nat.succ_mul j r
  obtain ⟨q,hqe⟩:∃ q,q=j*r / 65536:=⟨_,rfl⟩
  have hqq:q+24≤BL:=by
   have:j*r / 65536≤lim / 65536:=Nat.div_le_div_right (by omega)
   omega
  have hb:∀ i,i<24→buf[0+q+i]? = some ((buf.drop q).getD i 0):=by
   intro i hi
   rw [List.getD_eq_getElem?_getD,List.getElem?_drop,Nat.zero_add,List.getElem?_eq_getElem (by omega)]
   rfl
  have hc:∀ i,i<2+FL→co[i]? = some (co.getD i 0):=by
   intro i hi
   rw [List.getD_eq_getElem?_getD,List.getElem?_eq_getElem (by omega)]
   rfl
  have hbS:∀ i,iB 150000000 ((buf.drop q).getD i 0):=getD_iB (by omega) fun x hx=>hbuf x (List.mem_of_mem_drop hx)
  have hcS:∀ i,S16 (co.getD i 0):=getD_S16 hco
  have hbI:∀ i,I32 ((buf.drop q).getD i 0):=fun i=>iB_I32 (hbS i) (by omega)
  have hsn:=firL_snoc (at24 co) 6 r lim buf h4
  rw [← hqe] at hsn
  have hlen:((firL (at24 co) 6 r lim buf).take j).length=j:=by rw [List.length_take,firL_length]; omega
  have hbd:=at24_ok (b:=buf.drop q) (p:=((j*r % 65536:Nat):Int)) hbS hcS
  have hval:at24 co (buf.drop q) ((j*r % 65536:Nat):Int)=wb ((buf.drop q).getD 0 0+(buf.drop q).getD 23 0) (co.getD (2+0) 0)+wb ((buf.drop q).getD 1 0+(buf.drop q).getD 22 0) (co.getD (2+1) 0)+wb ((buf.drop q).getD 2 0+(buf.drop q).getD 21 0) (co.getD (2+2) 0)+wb ((buf.drop q).getD 3 0+(buf.drop q).getD 20 0) (co.getD (2+3) 0)+wb ((buf.drop q).getD 4 0+(buf.drop q).getD 19 0) (co.getD (2+4) 0)+wb ((buf.drop q).getD 5 0+(buf.drop q).getD 18 0) (co.getD (2+5) 0)+wb ((buf.drop q).getD 6 0+(buf.drop q).getD 17 0) (co.getD (2+6) 0)+wb ((buf.drop q).getD 7 0+(buf.drop q).getD 16 0) (co.getD (2+7) 0)+wb ((buf.drop q).getD 8 0+(buf.drop q).getD 15 0) (co.getD (2+8) 0)+wb ((buf.drop q).getD 9 0+(buf.drop q).getD 14 0) (co.getD (2+9) 0)+wb ((buf.drop q).getD 10 0+(buf.drop q).getD 13 0) (co.getD (2+10) 0)+wb ((buf.drop q).getD 11 0+(buf.drop q).getD 12 0) (co.getD (2+11) 0):=rfl
  have hs:∀ a c,IntKind.i32.wrap ((buf.drop q).getD a 0+(buf.drop q).getD c 0)=(buf.drop q).getD a 0+(buf.drop q).getD c 0:=fun a c=>wi32 (by have h1:=hbS a; have h2:=hbS c; unfold iB at h1 h2; omega)
  have hsI:∀ a c,I32 ((buf.drop q).getD a 0+(buf.drop q).getD c 0):=fun a c=>by have h1:=hbS a; have h2:=hbS c; unfold iB at h1 h2; unfold I32; omega
  conv=>whnf
  rw [hi16 (by omega),← hqe]
  refine ⟨⟨by omega,by omega,by omega⟩,?_⟩
  conv=>whnf
  refine ⟨fun _=>?_,fun h1 h2=>absurd h1 (by omega)⟩
  conv=>whnf
  dsimp -iota only
  refine ⟨⟨by decide,Int.ofNat_lt.2 (sb_ hqq (by decide:0<_))⟩,?_⟩
  conv=>whnf
  refine ⟨_,hb 0 (by decide),?_⟩
  conv=>whnf
  refine ⟨⟨by decide,Int.ofNat_lt.2 (sb_ hqq (by decide:23<_))⟩,?_⟩
  conv=>whnf
  refine ⟨_,hb 23 (by decide),?_⟩
  conv=>whnf
  rw [hs 0 23]
  refine ⟨⟨by decide,Int.ofNat_lt.2 (sk_ hFL (by decide:0<12))⟩,?_⟩
  conv=>whnf
  refine ⟨_,hc (2+0) (sk2_ hFL (by decide:0<12)),?_⟩
  conv=>whnf
  refine callV (mulWBW' w0 (hsI 0 23) (hcS (2+0))) rfl ?_
  conv=>whnf
  refine ⟨trivial,?_⟩
  conv=>whnf
  dsimp -iota only
  refine ⟨⟨by decide,Int.ofNat_lt.2 (sb_ hqq (by decide:1<_))⟩,?_⟩
  conv=>whnf
  refine ⟨_,hb 1 (by decide),?_⟩
  conv=>whnf
  refine ⟨⟨by decide,Int.ofNat_lt.2 (sb_ hqq (by decide:22<_))⟩,?_⟩
  conv=>whnf
  refine ⟨_,hb 22 (by decide),?_⟩
  conv=>whnf
  rw [hs 1 22]
  refine ⟨⟨by decide,Int.ofNat_lt.2 (sk_ hFL (by decide:1<12))⟩,?_⟩
  conv=>whnf
  refine ⟨_,hc (2+1) (sk2_ hFL (by decide:1<12)),?_⟩
  conv=>whnf
  refine callV (mlaWBW' w0 (hsI 1 22) (hcS (2+1))) rfl ?_
  conv=>whnf
  refine ⟨trivial,?_⟩
  conv=>whnf
  dsimp -iota only
  refine ⟨⟨by decide,Int.ofNat_lt.2 (sb_ hqq (by decide:2<_))⟩,?_⟩
  conv=>whnf
  refine ⟨_,hb 2 (by decide),?_⟩
  conv=>whnf
  refine ⟨⟨by decide,Int.ofNat_lt.2 (sb_ hqq (by decide:21<_))⟩,?_⟩
  conv=>whnf
  refine ⟨_,hb 21 (by decide),?_⟩
  conv=>whnf
  rw [hs 2 21]
  refine ⟨⟨by decide,Int.ofNat_lt.2 (sk_ hFL (by decide:2<12))⟩,?_⟩
  conv=>whnf
  refine ⟨_,hc (2+2) (sk2_ hFL (by decide:2<12)),?_⟩
  conv=>whnf
  refine callV (mlaWBW' w0 (hsI 2 21) (hcS (2+2))) rfl ?_
  conv=>whnf
  refine ⟨trivial,?_⟩
  conv=>whnf
  dsimp -iota only
  refine ⟨⟨by decide,Int.ofNat_lt.2 (sb_ hqq (by decide:3<_))⟩,?_⟩
  conv=>whnf
  refine ⟨_,hb 3 (by decide),?_⟩
  conv=>whnf
  refine ⟨⟨by decide,Int.ofNat_lt.2 (sb_ hqq (by decide:20<_))⟩,?_⟩
  conv=>whnf
  refine ⟨_,hb 20 (by decide),?_⟩
  conv=>whnf
  rw [hs 3 20]
  refine ⟨⟨by decide,Int.ofNat_lt.2 (sk_ hFL (by decide:3<12))⟩,?_⟩
  conv=>whnf
  refine ⟨_,hc (2+3) (sk2_ hFL (by decide:3<12)),?_⟩
  conv=>whnf
  refine callV (mlaWBW' w0 (hsI 3 20) (hcS (2+3))) rfl ?_
  conv=>whnf
  refine ⟨trivial,?_⟩
  conv=>whnf
  dsimp -iota only
  refine ⟨⟨by decide,Int.ofNat_lt.2 (sb_ hqq (by decide:4<_))⟩,?_⟩
  conv=>whnf
  refine ⟨_,hb 4 (by decide),?_⟩
  conv=>whnf
  refine ⟨⟨by decide,Int.ofNat_lt.2 (sb_ hqq (by decide:19<_))⟩,?_⟩
  conv=>whnf
  refine ⟨_,hb 19 (by decide),?_⟩
  conv=>whnf
  rw [hs 4 19]
  refine ⟨⟨by decide,Int.ofNat_lt.2 (sk_ hFL (by decide:4<12))⟩,?_⟩
  conv=>whnf
  refine ⟨_,hc (2+4) (sk2_ hFL (by decide:4<12)),?_⟩
  conv=>whnf
  refine callV (mlaWBW' w0 (hsI 4 19) (hcS (2+4))) rfl ?_
  conv=>whnf
  refine ⟨trivial,?_⟩
  conv=>whnf
  dsimp -iota only
  refine ⟨⟨by decide,Int.ofNat_lt.2 (sb_ hqq (by decide:5<_))⟩,?_⟩
  conv=>whnf
  refine ⟨_,hb 5 (by decide),?_⟩
  conv=>whnf
  refine ⟨⟨by decide,Int.ofNat_lt.2 (sb_ hqq (by decide:18<_))⟩,?_⟩
  conv=>whnf
  refine ⟨_,hb 18 (by decide),?_⟩
  conv=>whnf
  rw [hs 5 18]
  refine ⟨⟨by decide,Int.ofNat_lt.2 (sk_ hFL (by decide:5<12))⟩,?_⟩
  conv=>whnf
  refine ⟨_,hc (2+5) (sk2_ hFL (by decide:5<12)),?_⟩
  conv=>whnf
  refine callV (mlaWBW' w0 (hsI 5 18) (hcS (2+5))) rfl ?_
  conv=>whnf
  refine ⟨trivial,?_⟩
  conv=>whnf
  dsimp -iota only
  refine ⟨⟨by decide,Int.ofNat_lt.2 (sb_ hqq (by decide:6<_))⟩,?_⟩
  conv=>whnf
  refine ⟨_,hb 6 (by decide),?_⟩
  conv=>whnf
  refine ⟨⟨by decide,Int.ofNat_lt.2 (sb_ hqq (by decide:17<_))⟩,?_⟩
  conv=>whnf
  refine ⟨_,hb 17 (by decide),?_⟩
  conv=>whnf
  rw [hs 6 17]
  refine ⟨⟨by decide,Int.ofNat_lt.2 (sk_ hFL (by decide:6<12))⟩,?_⟩
  conv=>whnf
  refine ⟨_,hc (2+6) (sk2_ hFL (by decide:6<12)),?_⟩
  conv=>whnf
  refine callV (mlaWBW' w0 (hsI 6 17) (hcS (2+6))) rfl ?_
  conv=>whnf
  refine ⟨trivial,?_⟩
  conv=>whnf
  dsimp -iota only
  refine ⟨⟨by decide,Int.ofNat_lt.2 (sb_ hqq (by decide:7<_))⟩,?_⟩
  conv=>whnf
  refine ⟨_,hb 7 (by decide),?_⟩
  conv=>whnf
  refine ⟨⟨by decide,Int.ofNat_lt.2 (sb_ hqq (by decide:16<_))⟩,?_⟩
  conv=>whnf
  refine ⟨_,hb 16 (by decide),?_⟩
  conv=>whnf
  rw [hs 7 16]
  refine ⟨⟨by decide,Int.ofNat_lt.2 (sk_ hFL (by decide:7<12))⟩,?_⟩
  conv=>whnf
  refine ⟨_,hc (2+7) (sk2_ hFL (by decide:7<12)),?_⟩
  conv=>whnf
  refine callV (mlaWBW' w0 (hsI 7 16) (hcS (2+7))) rfl ?_
  conv=>whnf
  refine ⟨trivial,?_⟩
  conv=>whnf
  dsimp -iota only
  refine ⟨⟨by decide,Int.ofNat_lt.2 (sb_ hqq (by decide:8<_))⟩,?_⟩
  conv=>whnf
  refine ⟨_,hb 8 (by decide),?_⟩
  conv=>whnf
  refine ⟨⟨by decide,Int.ofNat_lt.2 (sb_ hqq (by decide:15<_))⟩,?_⟩
  conv=>whnf
  refine ⟨_,hb 15 (by decide),?_⟩
  conv=>whnf
  rw [hs 8 15]
  refine ⟨⟨by decide,Int.ofNat_lt.2 (sk_ hFL (by decide:8<12))⟩,?_⟩
  conv=>whnf
  refine ⟨_,hc (2+8) (sk2_ hFL (by decide:8<12)),?_⟩
  conv=>whnf
  refine callV (mlaWBW' w0 (hsI 8 15) (hcS (2+8))) rfl ?_
  conv=>whnf
  refine ⟨trivial,?_⟩
  conv=>whnf
  dsimp -iota only
  refine ⟨⟨by decide,Int.ofNat_lt.2 (sb_ hqq (by decide:9<_))⟩,?_⟩
  conv=>whnf
  refine ⟨_,hb 9 (by decide),?_⟩
  conv=>whnf
  refine ⟨⟨by decide,Int.ofNat_lt.2 (sb_ hqq (by decide:14<_))⟩,?_⟩
  conv=>whnf
  refine ⟨_,hb 14 (by decide),?_⟩
  conv=>whnf
  rw [hs 9 14]
  refine ⟨⟨by decide,Int.ofNat_lt.2 (sk_ hFL (by decide:9<12))⟩,?_⟩
  conv=>whnf
  refine ⟨_,hc (2+9) (sk2_ hFL (by decide:9<12)),?_⟩
  conv=>whnf
  refine callV (mlaWBW' w0 (hsI 9 14) (hcS (2+9))) rfl ?_
  conv=>whnf
  refine ⟨trivial,?_⟩
  conv=>whnf
  dsimp -iota only
  refine ⟨⟨by decide,Int.ofNat_lt.2 (sb_ hqq (by decide:10<_))⟩,?_⟩
  conv=>whnf
  refine ⟨_,hb 10 (by decide),?_⟩
  conv=>whnf
  refine ⟨⟨by decide,Int.ofNat_lt.2 (sb_ hqq (by decide:13<_))⟩,?_⟩
  conv=>whnf
  refine ⟨_,hb 13 (by decide),?_⟩
  conv=>whnf
  rw [hs 10 13]
  refine ⟨⟨by decide,Int.ofNat_lt.2 (sk_ hFL (by decide:10<12))⟩,?_⟩
  conv=>whnf
  refine ⟨_,hc (2+10) (sk2_ hFL (by decide:10<12)),?_⟩
  conv=>whnf
  refine callV (mlaWBW' w0 (hsI 10 13) (hcS (2+10))) rfl ?_
  conv=>whnf
  refine ⟨trivial,?_⟩
  conv=>whnf
  dsimp -iota only
  refine ⟨⟨by decide,Int.ofNat_lt.2 (sb_ hqq (by decide:11<_))⟩,?_⟩
  conv=>whnf
  refine ⟨_,hb 11 (by decide),?_⟩
  conv=>whnf
  refine ⟨⟨by decide,Int.ofNat_lt.2 (sb_ hqq (by decide:12<_))⟩,?_⟩
  conv=>whnf
  refine ⟨_,hb 12 (by decide),?_⟩
  conv=>whnf
  rw [hs 11 12]
  refine ⟨⟨by decide,Int.ofNat_lt.2 (sk_ hFL (by decide:11<12))⟩,?_⟩
  conv=>whnf
  refine ⟨_,hc (2+11) (sk2_ hFL (by decide:11<12)),?_⟩
  conv=>whnf
  refine callV (mlaWBW' w0 (hsI 11 12) (hcS (2+11))) rfl ?_
  conv=>whnf
  refine ⟨trivial,?_⟩
  conv=>whnf
  dsimp -iota only
  rw [sum12,← hval,wi32 (n:=at24 co (buf.drop q) ((j*r % 65536:Nat):Int)) (by unfold iB at hbd; omega)]
  generalize at24 co (buf.drop q) ((j*r % 65536:Nat):Int)=v at *
  refine callV (rsrW w0 (k:=6) (iB_I32 hbd (by omega)) (by omega) (by omega)) rfl ?_
  conv=>whnf
  refine callV (sat16W w0) rfl ?_
  conv=>whnf
  dsimp -iota only
  refine ⟨⟨Int.natCast_nonneg _,Int.ofNat_lt.2 (by omega:j<on)⟩,?_⟩
  conv=>whnf
  obtain ⟨g0,hg0⟩:=wr_get out oo ((firL (at24 co) 6 r lim buf).take j) (oo+j) (by omega) (by omega)
  refine ⟨g0,satI (rnd v 6),hg0,rfl,?_⟩
  rw [show ((j:Int)).toNat=j from rfl,wr_set out oo ((firL (at24 co) 6 r lim buf).take j) (oo+j) _ (by omega) (by omega)]
  conv=>whnf
  rw [ninc (by omega),show IntKind.i32.wrap (((j*r:Nat):Int)+(r:Int))=(((j+1)*r:Nat):Int) from by rw [wi32 (by omega)]; omega]
  have e:=embD (z:=z) (b:=buf) (co:=co) htl (congrArg (wr out oo) hsn)
  refine ⟨⟨j+1,h4⟩,⟨[0,1,2,3,4,5],?_,rfl,rfl,rfl,rfl,rfl,rfl,rfl,rfl,trivial⟩,Nat.sub_lt_sub_left h4 (Nat.lt_succ_self j)⟩
  exact e
 have h3:lim≤j*r:=lt_f h3
 have h4:¬ j<cntI lim r:=fun h=>absurd ((cntI_lt hr).1 h) (by omega)
 have h5:j=cntI lim r:=by omega
 subst h5
 conv=>whnf
 refine Or.inl ⟨rfl,?_⟩
 rw [List.take_of_length_le (by rw [firL_length]; exact Nat.le_refl _)]
structure Sc where
 fn:Nat
 bs:Nat
 inv:Nat
 ord:Nat
 fr:Nat
 fi:Nat
 fo:Nat
 dl:Nat
 co:CV
 i16:CV
 o16:CV
 ii:CV
 dn:CV
def Sc.cells (s:Sc):List CV:=[ci .i64 s.fn,ci .i64 s.bs,ci .i32 s.inv,ci .i64 s.ord,ci .i64 s.fr,ci .i64 s.fi,ci .i64 s.fo,ci .i64 s.dl,s.co,s.i16,s.o16,s.ii,s.dn]
def Sc.ren (σ:List Nat) (s:Sc):Sc:={ s with co:=s.co.ren σ,i16:=s.i16.ren σ,o16:=s.o16.ren σ,ii:=s.ii.ren σ,dn:=s.dn.ren σ }
def tlC (F G D:List Int) (s:Sc):List CV:=F.map (ci .i32)++(G.map (ci .i16)++(D.map (ci .i16)++s.cells))
theorem map_ci (σ:List Nat) (k:IntKind) (l:List Int):(l.map (ci k)).map (CV.ren σ)=l.map (ci k):=by
 rw [List.map_map]
 rfl
theorem tlC_ren (σ:List Nat) (F G D:List Int) (s:Sc):(tlC F G D s).map (CV.ren σ)=tlC F G D (s.ren σ):=by
 unfold tlC
 rw [List.map_append,List.map_append,List.map_append,map_ci,map_ci,map_ci]
 rfl
theorem tlC_nat {F G D:List Int} {s:Sc} (h:s.ren [0,1,2,3,4,5]=s):Nat6 (tlC F G D s):=by
 unfold Nat6
 rw [tlC_ren,h]
section
variable {F G D:List Int} {s:Sc}
theorem tlC_get (hF:F.length=36) (hG:G.length=8) (hD:D.length=48) {i:Nat} {c:CV} (h:s.cells[i]? = some c):(tlC F G D s)[92+i]? = some c:=by
 unfold tlC
 rw [List.getElem?_append_right (by simp [hF]; omega),List.getElem?_append_right (by simp [hF,hG]; omega),List.getElem?_append_right (by simp [hF,hG,hD]; omega)]
 rw [← h]
 congr 1
 simp [hF,hG,hD]
 omega
theorem tlC_dly (hF:F.length=36) (hG:G.length=8) (hD:D.length=48) {i:Nat} {x:Int} (h:D[i]? = some x):(tlC F G D s)[44+i]? = some (ci .i16 x):=by
 have hi:i<D.length:=(List.getElem?_eq_some_iff.1 h).1
 unfold tlC
 rw [List.getElem?_append_right (by simp [hF]; omega),List.getElem?_append_right (by simp [hF,hG]; omega),List.getElem?_append_left (by simp [hF,hG,hD]; omega)]
 rw [List.getElem?_map,show 44+i - (F.map (ci .i32)).length - (G.map (ci .i16)).length=i by simp [hF,hG]; omega,h]
 rfl
theorem tlC_length (hF:F.length=36) (hG:G.length=8) (hD:D.length=48):(tlC F G D s).length=105:=by
 unfold tlC Sc.cells
 simp [hF,hG,hD]
theorem tlC_set (hF:F.length=36) (hG:G.length=8) (hD:D.length=48) {i:Nat} {c:CV} {s':Sc} (h:s.cells.set i c=s'.cells):(tlC F G D s).set (92+i) c=tlC F G D s':=by
 unfold tlC
 rw [List.set_append_right _ _ (by simp [hF]; omega),List.set_append_right _ _ (by simp [hF,hG]; omega),List.set_append_right _ _ (by simp [hF,hG,hD]; omega)]
 rw [← h]
 congr 4
 simp [hF,hG,hD]
 omega
theorem tlC_firii (hF:F.length=36) (hG:G.length=8) (_hD:D.length=48):((tlC F G D s).drop 36).take 8=G.map (ci .i16):=by
 unfold tlC
 rw [List.drop_left' (by simp [hF])]
 exact List.take_left' (by simp [hG])
theorem tlC_fir (hF:F.length=36) (_hG:G.length=8) (_hD:D.length=48) {n:Nat} (hn:n≤36):(tlC F G D s).take n=(F.take n).map (ci .i32):=by
 unfold tlC
 rw [List.take_append_of_le_length (by simp [hF]; omega),List.map_take]
theorem tlC_putG (hF:F.length=36) (hG:G.length=8) (_hD:D.length=48) {G':List Int}:(tlC F G D s).take 36++(G'.map (ci .i16)++(tlC F G D s).drop 44)=tlC F G' D s:=by
 unfold tlC
 rw [List.take_left' (by simp [hF]),← List.append_assoc,← List.append_assoc (F.map _) (G.map _),List.drop_left' (by simp [hF,hG]),List.append_assoc]
theorem tlC_putF (hF:F.length=36) (_hG:G.length=8) (_hD:D.length=48) {F':List Int} (h:F'.length≤36):F'.map (ci .i32)++(tlC F G D s).drop F'.length=tlC (F'++F.drop F'.length) G D s:=by
 unfold tlC
 rw [List.drop_append_of_le_length (by simp [hF]; omega),List.map_append,List.map_drop,List.append_assoc]
theorem tlC_putD (hF:F.length=36) (hG:G.length=8) (hD:D.length=48) {D':List Int} {k:Nat} (h:k+D'.length≤48):(tlC F G D s).take (44+k)++(D'.map (ci .i16)++(tlC F G D s).drop (44+k+D'.length))=tlC F G (D.take k++(D'++D.drop (k+D'.length))) s:=by
 unfold tlC
 have e1:(F.map (ci .i32)++(G.map (ci .i16)++(D.map (ci .i16)++s.cells))).take (44+k)=F.map (ci .i32)++(G.map (ci .i16)++(D.take k).map (ci .i16)):=by
  rw [List.take_append,List.take_append,List.take_append]
  simp only [List.length_map,hF,hG,hD]
  rw [List.take_of_length_le (by simp [hF]; omega),List.take_of_length_le (by simp [hG]; omega),show 44+k - 36 - 8=k by omega,List.map_take,show k - 48=0 by omega]
  simp
 have e2:(F.map (ci .i32)++(G.map (ci .i16)++(D.map (ci .i16)++s.cells))).drop (44+k+D'.length)=(D.drop (k+D'.length)).map (ci .i16)++s.cells:=by
  rw [List.drop_append,List.drop_append,List.drop_append]
  simp only [List.length_map,hF,hG,hD]
  rw [List.drop_eq_nil_of_le (by simp [hF]; omega),List.drop_eq_nil_of_le (by simp [hG]; omega),show 44+k+D'.length - 36 - 8=k+D'.length by omega,show k+D'.length - 48=0 by omega,List.map_drop]
  simp
 rw [e1,e2]
 simp [List.append_assoc]
end
theorem dropF_take {α:Type}:∀ {n m:Nat} {l r:List α} {k:List α → Prop},n≤l.length→(l.drop n).take m=r→r.length=m→k r→dropF n l fun l=>takeF m l k
 | 0,0,l,r,k,_,h,hl,hk=>by
  have:r=[]:=List.length_eq_zero_iff.1 hl
  subst this
  exact hk
 | 0,m+1,[],r,k,_,h,hl,hk=>by
  simp at h
  subst h
  simp at hl
 | 0,m+1,x::l,r,k,_,h,hl,hk=>by
  simp at h
  subst h
  show takeF m l fun l=>k (x::l)
  exact dropF_take (n:=0) (m:=m) (l:=l) (r:=l.take m) (k:=fun l=>k (x::l)) (Nat.zero_le _) (by simp) (by simpa using hl) hk
 | n+1,m,[],r,k,hn,h,hl,hk=>absurd hn (by simp)
 | n+1,m,x::l,r,k,hn,h,hl,hk=>dropF_take (n:=n) (l:=l) (by simpa using hn) (by simpa using h) hl hk
theorem putF_one {α:Type}:∀ {n:Nat} {l:List α} {v:α} {k:List α → Prop},n<l.length→k (l.set n v)→putF n [v] l k
 | _,[],_,_,h,_=>by simp at h
 | 0,x::l,v,k,_,hk=>by
  show putF 0 [] l fun r=>k (v::r)
  rw [putF_nil]
  exact hk
 | n+1,x::l,v,k,h,hk=>putF_one (n:=n) (l:=l) (k:=fun r=>k (x::r)) (by simpa using h) hk
theorem putF_to {α:Type} {n:Nat} {l l':List α} {v:α} {k:List α → Prop} (h:n<l.length) (he:l.set n v=l') (hk:k l'):putF n [v] l k:=putF_one h (he ▸ hk)
theorem flat_I (k:IntKind) (l:List Int):flat (encI k) [] l=l.map (ci k):=by
 unfold flat
 induction l with
 | nil=>rfl
 | cons x l ih=>rw [List.flatMap_cons,ih]; rfl
def nilC:CV := .val (.slice none 0 0)
theorem Rd_dly {w0:World} {F G D:List Int} {s:Sc} (hF:F.length=36) (hG:G.length=8) (hD:D.length=48) {io:Nat} {xs ys:List Int} (h:∀ k x,xs[k]? = some x→D[io+k]? = some x):Rd w0 0 (50+io) xs (tlC F G D s) ys:=by
 intro k x hk z B1 B3 B4 B5 K hK
 have h1:=tlC_dly (s:=s) hF hG hD (h k x hk)
 show dropF ((50+io+k)*1+0) _ fun l=>takeF 1 l K
 refine dropF_get ?_ hK
 rw [show (50+io+k)*1+0=44+(io+k)+6 by omega]
 exact h1
theorem Rd_vec {w0:World} {tl:List CV} {io:Nat} {xs ys:List Int} (h:∀ k x,xs[k]? = some x→ys[io+k]? = some x):Rd w0 2 io xs tl ys:=by
 intro k x hk z B1 B3 B4 B5 K hK
 exact ⟨x,h k x hk,hK⟩
def eqL:List Blk→List Blk→Prop
 | [],[]=>True
 | a::r,b::r'=>a=b∧eqL r r'
 | _,_=>False
theorem eqL.eq:∀ {l l':List Blk},eqL l l'→l=l'
 | [],[],_=>rfl
 | _::_,_::_,h=>by rw [h.1,eqL.eq h.2]
 | [],_::_,h=>h.elim
 | _::_,[],h=>h.elim
theorem CallsA.liftE {P:Program} {w0:World} {f:FuncId} {args0 args:List A1} {H0 H:List Blk} {R0 R:AV→List Blk→Prop} (σ:List Nat) (hσn:Vc.nodupB σ = true) (hemb:embH σ H H0 σ) (hargs:args0.map (A1.ren σ)=args) (h:CallsA P w0 f args0 H0 R0)
 (hR:∀ r0 H0',R0 r0 H0' → ∃ r1 H1,r0.ren (widen σ H H0')=r1∧eqL (putAll σ (H0'.map (Blk.ren (widen σ H H0'))) H) H1∧R r1 H1):CallsA P w0 f args H R :=
 CallsA.lift σ hσn hemb hargs h fun r0 H0' h0=>by
  obtain ⟨r1,H1,h1,h2,h3⟩:=hR r0 H0' h0
  rw [h1,h2.eq]
  exact h3
theorem CallsA.liftKE {P:Program} {w0:World} {f:FuncId} {args0 args:List A1} {H0 H:List Blk} {R0 R:AV→List Blk→Prop} (σ:List Nat) (Hd:List Blk) (hk:kill Hd H) (hσn:Vc.nodupB σ = true) (hemb:embH σ Hd H0 σ) (hargs:args0.map (A1.ren σ)=args) (h:CallsA P w0 f args0 H0 R0)
 (hR:∀ r0 H0',R0 r0 H0' → ∃ r1 H1,r0.ren (widen σ Hd H0')=r1∧eqL (Go.Vc.wake Hd H (putAll σ (H0'.map (Blk.ren (widen σ Hd H0'))) Hd)) H1∧R r1 H1):CallsA P w0 f args H R :=
 CallsA.liftK σ Hd hk hσn hemb hargs h fun r0 H0' h0=>by
  obtain ⟨r1,H1,h1,h2,h3⟩:=hR r0 H0' h0
  rw [h1,h2.eq]
  exact h3
theorem lk {i m:Nat} (n:Nat) (h:decide (i<n)=true) (e:n=m):i<m:=e ▸ of_decide_eq_true h
theorem zB_ren (σ:List Nat) (z:Z6) (F G D:List Int) (s:Sc):(zB z (tlC F G D s)).ren σ = zB z (tlC F G D (s.ren σ)):=by
 show Blk.cells _ (_::_::_::_::_::_::(tlC F G D s).map (CV.ren σ))=_
 rw [tlC_ren]
 rfl
def LocW (w:Nat) (at_:List Int→Int→Int):Prop := ∀ b b' p,(∀ i,i<w→b.getD i 0=b'.getD i 0)→at_ b p=at_ b' p
theorem at12_loc:LocW 8 at12:=by
 intro b b' p h
 unfold at12
 rw [h 0 (by omega),h 1 (by omega),h 2 (by omega),h 3 (by omega),h 4 (by omega),h 5 (by omega),h 6 (by omega),h 7 (by omega)]
theorem at18_loc (parts:Nat) (co:List Int):LocW 18 (at18 parts co):=by
 intro b b' p h
 unfold at18
 simp only [h 0 (by omega),h 1 (by omega),h 2 (by omega),h 3 (by omega),h 4 (by omega),h 5 (by omega),h 6 (by omega),h 7 (by omega),h 8 (by omega),h 9 (by omega),h 10 (by omega),h 11 (by omega),h 12 (by omega),h 13 (by omega),h 14 (by omega),h 15 (by omega),h 16 (by omega),h 17 (by omega)]
theorem at24_loc (co:List Int):LocW 24 (at24 co):=by
 intro b b' p h
 unfold at24
 simp only [h 0 (by omega),h 1 (by omega),h 2 (by omega),h 3 (by omega),h 4 (by omega),h 5 (by omega),h 6 (by omega),h 7 (by omega),h 8 (by omega),h 9 (by omega),h 10 (by omega),h 11 (by omega),h 12 (by omega),h 13 (by omega),h 14 (by omega),h 15 (by omega),h 16 (by omega),h 17 (by omega),h 18 (by omega),h 19 (by omega),h 20 (by omega),h 21 (by omega),h 22 (by omega),h 23 (by omega)]
theorem firL_loc {w:Nat} {at_:List Int→Int→Int} (hl:LocW w at_) {bits r n:Nat} {A B:List Int} (hr:0<r) (hA:n+w≤A.length+1):firL at_ bits r (n*65536) (A++B)=firL at_ bits r (n*65536) A:=by
 unfold firL
 apply List.map_congr_left
 intro k hk
 have hk2:k*r<n*65536:=(cntI_lt hr).1 (List.mem_range.1 hk)
 rw [hl _ (A.drop (k*r / 65536)) _ fun i hi => ?_]
 have hq:k*r / 65536<n:=by omega
 rw [List.getD_eq_getElem?_getD,List.getD_eq_getElem?_getD,List.getElem?_drop,List.getElem?_drop,List.getElem?_append_left (by omega)]
section
variable {σ:Type} {each:σ → List Int→List Int × σ} {scale c r bits:Nat} {at_:List Int→Int→Int}
theorem bat_nil (n:Nat) (z:σ) (f:List Int):bat each scale c r bits at_ n z f []=([],z,f):=by cases n <;> rfl
theorem bat_step (n:Nat) (z:σ) (f xs:List Int) (h:xs≠[]):bat each scale c r bits at_ (n+1) z f xs =
 (firL at_ bits r (min xs.length c*scale*65536) (f++(each z (xs.take (min xs.length c))).1)++(bat each scale c r bits at_ n (each z (xs.take (min xs.length c))).2 (((f++(each z (xs.take (min xs.length c))).1).drop (min xs.length c*scale)).take f.length) (xs.drop (min xs.length c))).1,
  (bat each scale c r bits at_ n (each z (xs.take (min xs.length c))).2 (((f++(each z (xs.take (min xs.length c))).1).drop (min xs.length c*scale)).take f.length) (xs.drop (min xs.length c))).2):=by
 cases xs with
 | nil=>exact absurd rfl h
 | cons x l=>rfl
end
structure IBat {σ:Type} (each:σ → List Int→List Int × σ) (scale c r bits:Nat) (at_:List Int→Int→Int) (z0:σ) (f0 xs:List Int) where
 n:Nat
 acc:List Int
 z:σ
 fir:List Int
 d:Nat
 h:bat each scale c r bits at_ xs.length z0 f0 xs=(acc++(bat each scale c r bits at_ n z fir (xs.drop d)).1,(bat each scale c r bits at_ n z fir (xs.drop d)).2)
 hd:d≤xs.length
 hn:xs.length - d≤n
section
variable {σ:Type} {each:σ → List Int→List Int × σ} {scale c r bits:Nat} {at_:List Int→Int→Int} {z0:σ} {f0 xs:List Int}
def IBat.m (j:IBat each scale c r bits at_ z0 f0 xs):Nat:=min (xs.length - j.d) c
def IBat.e (j:IBat each scale c r bits at_ z0 f0 xs):List Int × σ := each j.z ((xs.drop j.d).take j.m)
def IBat.next (j:IBat each scale c r bits at_ z0 f0 xs) (h:j.d<xs.length) (hc:0<c):IBat each scale c r bits at_ z0 f0 xs where
 n:=j.n - 1
 acc:=j.acc++firL at_ bits r (j.m*scale*65536) (j.fir++j.e.1)
 z:=j.e.2
 fir:=((j.fir++j.e.1).drop (j.m*scale)).take j.fir.length
 d:=j.d+j.m
 h:=by
  have h1:=j.h
  have h2:=j.hn
  obtain ⟨n',hn'⟩:∃ n',j.n=n'+1:=⟨j.n - 1,by omega⟩
  have h3:=bat_step (each:=each) (scale:=scale) (c:=c) (r:=r) (bits:=bits) (at_:=at_) n' j.z j.fir (xs.drop j.d) (by intro h; have:=congrArg List.length h; simp at this; omega)
  rw [hn',h3] at h1
  rw [show j.n - 1=n' by omega]
  have hm:min (xs.drop j.d).length c=j.m:=by unfold IBat.m; rw [List.length_drop]
  rw [hm] at h1
  rw [h1]
  show (_,_)=(_,_)
  rw [List.append_assoc,List.drop_drop]
  rfl
 hd:=by unfold IBat.m; omega
 hn:=by have:=j.hn; unfold IBat.m; omega
theorem IBat.le (j:IBat each scale c r bits at_ z0 f0 xs):j.acc.length≤(bat each scale c r bits at_ xs.length z0 f0 xs).1.length:=by
 rw [j.h]
 simp
theorem IBat.fin (j:IBat each scale c r bits at_ z0 f0 xs) (h:xs.length≤j.d):bat each scale c r bits at_ xs.length z0 f0 xs=(j.acc,j.z,j.fir):=by
 rw [j.h,List.drop_eq_nil_of_le h,bat_nil]
 simp
end
theorem mn_eq (a b:Nat):(bif true then (if (b:Int)<(a:Int) then (b:Int) else (a:Int)) else (if (b:Int)>(a:Int) then (b:Int) else (a:Int)))=((min a b:Nat):Int):=by
 show (if (b:Int)<(a:Int) then (b:Int) else (a:Int))=_
 split <;> omega
def InOk (b io:Nat) (xs D ys:List Int):Prop:=(b=0 ∧ ∃ d,io=50+d ∧ ∀ k x,xs[k]? = some x→D[d+k]? = some x)∨(b=2 ∧ ∀ k x,xs[k]? = some x→ys[io+k]? = some x)
theorem InOk.rd {w0:World} {b io:Nat} {xs D ys:List Int} (h:InOk b io xs D ys) {F G:List Int} (hF:F.length=36) (hG:G.length=8) (hD:D.length=48) (s:Sc):Rd w0 b io xs (tlC F G D s) ys:=by
 rcases h with ⟨rfl,d,rfl,h⟩ | ⟨rfl,h⟩
 ·exact Rd_dly hF hG hD h
 exact Rd_vec h
theorem InOk.b {b io:Nat} {xs D ys:List Int} (h:InOk b io xs D ys):b=0∨b=2:=by
 rcases h with ⟨rfl,_⟩ | ⟨rfl,_⟩
 ·exact .inl rfl
 exact .inr rfl
theorem InOk.cut {b io:Nat} {xs D ys:List Int} (h:InOk b io xs D ys) (d m:Nat):InOk b (io+d) ((xs.drop d).take m) D ys:=by
 have hk:∀ k x,((xs.drop d).take m)[k]? = some x→xs[d+k]? = some x:=by
  intro k x hk
  rw [List.getElem?_take] at hk
  split at hk
  ·rwa [List.getElem?_drop] at hk
  cases hk
 rcases h with ⟨rfl,e,rfl,h⟩ | ⟨rfl,h⟩
 ·exact .inl ⟨rfl,e+d,by omega,fun k x hx=>by rw [Nat.add_assoc]; exact h _ _ (hk k x hx)⟩
 exact .inr ⟨rfl,fun k x hx=>by rw [Nat.add_assoc]; exact h _ _ (hk k x hx)⟩
def iiC (x:Option (List Int)):CV:=match x with
 | none=>nilC
 | some l => .sli 5 1 0 l.length l.length
def iiB (x:Option (List Int)):List Blk:=match x with
 | none=>[]
 | some l=>[sB l]
def scI (s:Sc) (i o ni no:Nat) (c:CV):Sc:={ s with co:=nilC,i16 := .sli i 1 0 ni ni,o16 := .sli o 1 0 no no,ii:=c,dn:=nilC }
def batI (bs R:Nat) (z:Z6) (G xs:List Int):List Int × Z6 × List Int:=bat dbl 2 bs R 15 at12 xs.length z G xs
structure IIx (bs R io N c:Nat) (z0:Z6) (G xs:List Int) where
 I:IBat dbl 2 bs R 15 at12 z0 G xs
 o:Nat
 c':Nat
 l:List Int
 ho:(I.d<N→o=io+I.d)∧N - I.d≤c'
 hl:l.length=2*bs+8
 hlS:∀ x∈l,S16 x
 hz:I.z.Ok
 hf:I.fir.length=8
 hfl:I.d<N→l.take 8=I.fir
def IIx.G' {bs R io N c:Nat} {z0:Z6} {G xs:List Int} (j:IIx bs R io N c z0 G xs):List Int:=if j.I.d<N then G else j.I.fir
def iiSt0 (b io N c oo on oc bs Ni No:Nat) (F G D _xs ys out:List Int) (z:Z6) (s:Sc) (l:List Int):S :=
 ⟨[(0,.o (.c (.ptr 0 0))),(1,.o (.c (.sli 1 1 oo on oc))),(2,.o (.c (.sli b 1 io N c)))],[zB z (tlC F G D (scI s 2 1 Ni No (.sli 5 1 0 (2*bs+8) (2*bs+8)))),sB out,sB ys,.dead,.dead,sB l]⟩
def iiSt1 (b io N c oo on oc bs R Ni No:Nat) (F G D xs ys out:List Int) (z:Z6) (s:Sc) (j:IIx bs R io N c z G xs):S :=
 ⟨[(0,.o (.c (.ptr 0 0))),(1,.o (.c (.sli 1 1 oo on oc))),(2,.o (.c (.sli b 1 j.o (N - j.I.d) j.c'))),(6,.o (.c (.sli 5 1 0 (2*bs+8) (2*bs+8)))),(7,.o (.c (.val (.int .i64 j.I.acc.length))))],
  [zB j.I.z (tlC F j.G' D (scI s 2 1 Ni No (.sli 5 1 0 (2*bs+8) (2*bs+8)))),sB (wr out oo j.I.acc),sB ys,.dead,.dead,sB j.l]⟩
theorem embI (z z':Z6) (F G G' D:List Int) (s:Sc) (ni no k:Nat) {o o' y l l':List Int} (hz:z=z') (hG:G=G') (ho:o=o') (hl:l=l') :
 embH [0,1,2,3,4,5] [zB z' (tlC F G' D (scI s 2 1 ni no (.sli 5 1 0 k k))),sB o',sB y,.dead,.dead,sB l'] [zB z (tlC F G D (scI s 2 1 ni no (.sli 5 1 0 k k))),sB o,sB y,.dead,.dead,sB l] [0,1,2,3,4,5]:=by
 subst hz hG ho hl
 exact ⟨congrArg some (zB_ren [0,1,2,3,4,5] z F G D (scI s 2 1 ni no (.sli 5 1 0 k k))).symm,rfl,rfl,rfl,rfl,rfl,(by decide:3<6),(by decide:4<6),rfl,rfl,trivial⟩
theorem clr_eq {l:List Int} {a k e n:Nat} (ha:a=0) (hk:k=n) (he:l.length≤e):l.take a++(List.replicate k 0++l.drop e)=List.replicate n 0:=by
 subst ha hk
 rw [List.drop_eq_nil_of_le he]
 simp
theorem src_G {w0:World} {z:Z6} {F G D:List Int} {s:Sc} {H:List Blk} (hF:F.length=36) (hG:G.length=8) (hD:D.length=48) {k:Nat} (hk:k=8):src w0 (zB z (tlC F G D s)::H) (encI .i16) [] 1 (.sli 0 1 42 k 8) G:=by
 subst hk
 refine ⟨rfl,hG,?_⟩
 show dropF 36 (tlC F G D s) fun l=>takeF 8 l fun r=>flat (encI .i16) [] G=r
 refine dropF_take (by rw [tlC_length hF hG hD]; decide) (tlC_firii hF hG hD) (by simp [hG]) (flat_I _ _)
theorem put_eq {l ys:List Int} {o e:Nat} (ho:o=0) (he:e=ys.length):l.take o++(ys++l.drop e)=ys++l.drop ys.length:=by
 subst ho he
 simp
def buf0 (bs:Nat) (G:List Int):List Int:=G++List.replicate (2*bs) 0
theorem S16_zero:S16 0:=by unfold S16; omega
theorem buf0_S16 {bs:Nat} {G:List Int} (h:∀ x∈G,S16 x):∀ x∈buf0 bs G,S16 x:=by
 intro x hx
 unfold buf0 at hx
 rcases List.mem_append.1 hx with h1 | h1
 ·exact h x h1
 rw [List.eq_of_mem_replicate h1]; exact S16_zero
theorem shl17 {m:Nat} (h:m≤1000):IntKind.i32.wrap (IntKind.i32.wrap (m:Int)*2 ^ min 17 IntKind.i32.bits)=((m*2*65536:Nat):Int):=by
 rw [wi32 (n:=(m:Int)) (by omega),show min 17 IntKind.i32.bits=17 from rfl,show (2:Int) ^ 17=131072 from rfl,wi32 (by omega)]
 omega
theorem wr_wr (l ys zs:List Int) (o o':Nat) (ho:o'=o+ys.length) (h:o+ys.length≤l.length):wr (wr l o ys) o' zs=wr l o (ys++zs):=by
 subst ho
 unfold wr
 have e1:(l.take o++(ys++l.drop (o+ys.length))).take (o+ys.length)=l.take o++ys:=by
  rw [← List.append_assoc]
  exact List.take_left' (by simp; omega)
 have e2:(l.take o++(ys++l.drop (o+ys.length))).drop (o+ys.length+zs.length)=l.drop (o+(ys++zs).length):=by
  rw [← List.append_assoc,List.drop_append,List.drop_eq_nil_of_le (by simp; omega),List.nil_append,List.drop_drop]
  congr 1
  simp
  omega
 rw [e1,e2]
 simp [List.append_assoc]
theorem put_G {z:Z6} {F G D G':List Int} {s:Sc} (hF:F.length=36) (hG:G.length=8) (hD:D.length=48) (_hG':G'.length=8) {T:List CV} {n k:Nat} (hT:T=(ci .i32 z.a::ci .i32 z.b::ci .i32 z.c::ci .i32 z.d::ci .i32 z.e::ci .i32 z.f::tlC F G D s)) (hn:n=42) (hk:k=50) :
 Blk.cells 46 (T.take n++(flat (encI .i16) [] G'++T.drop k))=zB z (tlC F G' D s):=by
 subst hT hn hk
 rw [flat_I]
 show Blk.cells _ (_::_::_::_::_::_::((tlC F G D s).take 36++(G'.map (ci .i16)++(tlC F G D s).drop 44)))=_
 rw [tlC_putG hF hG hD]
 rfl
def IIx.l1 {bs R io N c:Nat} {z0:Z6} {G xs:List Int} (j:IIx bs R io N c z0 G xs):List Int:=wr j.l 8 j.I.e.1
section
variable {bs R io N c:Nat} {z0:Z6} {G xs:List Int} (j:IIx bs R io N c z0 G xs)
theorem IIx.elen (hN:xs.length=N) (hd:j.I.d<N) (_hb:0<bs):j.I.e.1.length=2*j.I.m:=by
 unfold IBat.e
 rw [dbl_length,List.length_take,List.length_drop]
 unfold IBat.m
 omega
theorem IIx.l1e (hN:xs.length=N) (hd:j.I.d<N) (hb:0<bs):j.l1=(j.I.fir++j.I.e.1)++j.l.drop (8+2*j.I.m):=by
 unfold IIx.l1 wr
 rw [j.hfl hd,j.elen hN hd hb,List.append_assoc]
theorem IIx.l1len (hN:xs.length=N) (hd:j.I.d<N) (hb:0<bs):j.l1.length=2*bs+8:=by
 unfold IIx.l1
 have h1:=j.elen hN hd hb
 have h2:=j.hl
 rw [wr_length _ _ _ (by unfold IBat.m at h1; omega),h2]
theorem IIx.l1S (_hN:xs.length=N) (_hd:j.I.d<N) (_hb:0<bs):∀ x∈j.l1,S16 x:=by
 intro x hx
 unfold IIx.l1 wr at hx
 rcases List.mem_append.1 hx with h | h
 ·exact j.hlS x (List.mem_of_mem_take h)
 rcases List.mem_append.1 h with h | h
 ·exact dbl_S16 _ _ x h
 exact j.hlS x (List.mem_of_mem_drop h)
theorem IIx.fir' (hN:xs.length=N) (hd:j.I.d<N) (hb:0<bs):(j.l1.drop (2*j.I.m)).take 8=((j.I.fir++j.I.e.1).drop (j.I.m*2)).take j.I.fir.length:=by
 have h1:=j.elen hN hd hb
 have h2:=j.hf
 rw [j.l1e hN hd hb,List.drop_append_of_le_length (by rw [List.length_append]; omega),List.take_append_of_le_length (by rw [List.length_drop,List.length_append]; omega),h2,Nat.mul_comm]
theorem IIx.firl (hN:xs.length=N) (hd:j.I.d<N) (hb:0<bs):firL at12 15 R (j.I.m*2*65536) j.l1=firL at12 15 R (j.I.m*2*65536) (j.I.fir++j.I.e.1):=by
 have h1:=j.elen hN hd hb
 have h2:=j.hf
 rw [j.l1e hN hd hb]
 by_cases hR:0<R
 ·exact firL_loc at12_loc hR (by rw [List.length_append]; omega)
 have:R=0:=by omega
 subst this
 simp [firL,cntI]
def IIx.next (hN:xs.length=N) (hd:j.I.d<N) (hb:0<bs) (o' c':Nat) (ho:(j.I.d+j.I.m<N→o'=io+(j.I.d+j.I.m))∧N - (j.I.d+j.I.m)≤c') (hx:∀ x∈xs,S16 x):IIx bs R io N c z0 G xs where
 I:=j.I.next (by omega) hb
 o:=o'
 c':=c'
 l:=if j.I.d+j.I.m<N then (j.l1.drop (2*j.I.m)).take 8++j.l1.drop 8 else j.l1
 ho:=ho
 hl:=by
  have h1:=j.l1len hN hd hb
  split
  ·rw [List.length_append,List.length_take,List.length_drop,List.length_drop,h1]
   unfold IBat.m
   omega
  exact h1
 hlS:=by
  have h1:=j.l1S hN hd hb
  intro x hx'
  split at hx'
  ·rcases List.mem_append.1 hx' with h | h
   ·exact h1 x (List.mem_of_mem_drop (List.mem_of_mem_take h))
   exact h1 x (List.mem_of_mem_drop h)
  exact h1 x hx'
 hz:=dbl_ok j.hz fun x h=>hx x (List.mem_of_mem_drop (List.mem_of_mem_take h))
 hf:=by
  have h1:=j.elen hN hd hb
  have h2:=j.hf
  show (((j.I.fir++j.I.e.1).drop (j.I.m*2)).take j.I.fir.length).length=8
  rw [List.length_take,List.length_drop,List.length_append]
  omega
 hfl:=fun h=>by
  have h1:=j.l1len hN hd hb
  have h3:j.I.d+j.I.m<N:=h
  rw [if_pos h3,List.take_left' (by rw [List.length_take,List.length_drop,h1]; unfold IBat.m; omega)]
  exact j.fir' hN hd hb
end
def ii0 {bs R io N c:Nat} {z:Z6} {G xs:List Int} (_hN:xs.length=N) (hc:N≤c) (hG:G.length=8) (hGS:∀ x∈G,S16 x) (hz:z.Ok):IIx bs R io N c z G xs where
 I:=⟨xs.length,[],z,G,0,rfl,Nat.zero_le _,Nat.le_refl _⟩
 o:=io
 c':=c
 l:=buf0 bs G
 ho:=⟨fun _=>rfl,by show N - 0≤c; omega⟩
 hl:=by unfold buf0; simp [hG]; omega
 hlS:=buf0_S16 hGS
 hz:=hz
 hf:=hG
 hfl:=fun _=>by unfold buf0; rw [List.take_left' hG]
theorem ii0_G {bs R io N c:Nat} {z:Z6} {G xs:List Int} (hN:xs.length=N) (hc:N≤c) (hG:G.length=8) (hGS:∀ x∈G,S16 x) (hz:z.Ok):(ii0 (bs:=bs) (R:=R) (io:=io) hN hc hG hGS hz).G'=G:=by
 unfold IIx.G'
 split <;> rfl
theorem iirfirW (w0:World) (hT:upTab w0) (hT12:tab12 w0) {b io N c oo on oc bs R Ni No:Nat} {F G D xs ys out:List Int} {z:Z6} {s:Sc} {ii:Option (List Int)} (hbs:s.bs=bs) (hinv:s.inv=R)
 (hF:F.length=36) (hG:G.length=8) (hD:D.length=48) (hGS:∀ x∈G,S16 x) (hz:z.Ok) (hx:∀ x∈xs,S16 x) (hN:xs.length=N) (hin:InOk b io xs D ys) (hc:N≤c) (hb0:0<bs) (hb1:bs≤1000) (hR:0<R) (hR1:R≤500000000)
 (hii:∀ l,ii=some l→l.length=2*bs+8) (hon:(batI bs R z G xs).1.length≤on) (_hoc:on≤oc) (hoo:oo+(batI bs R z G xs).1.length≤out.length) (hbig:out.length≤1000000000) (_hbigN:N≤1000000000) :
 CallsA Tryz.prog w0 25 [.c (.ptr 0 0),.c (.sli 1 1 oo on oc),.c (.sli b 1 io N c)] ([zB z (tlC F G D (scI s 2 1 Ni No (iiC ii))),sB out,sB ys,.dead,.dead]++iiB ii)
  fun r H=>r = .t [] ∧ ∃ l',l'.length=2*bs+8∧H=[zB (batI bs R z G xs).2.1 (tlC F (batI bs R z G xs).2.2 D (scI s 2 1 Ni No (.sli 5 1 0 (2*bs+8) (2*bs+8)))),sB (wr out oo (batI bs R z G xs).1),sB ys,.dead,.dead,sB l']:=by
 have hB2:IntKind.i64.wrap (((2*bs:Nat):Int)+((8:Nat):Int))=((2*bs+8:Nat):Int):=by rw [wi64 (by omega)]; omega
 subst hbs hinv
 have hrb:∀ o n c,some (AV.o (.c (.sli b 1 o n c)))=some ((AV.o (.c (.sli b 1 o n c))).ren [0,1,2,3,4,5]):=by
  intro o n c
  rcases hin.b with rfl | rfl <;> rfl
 have hB1:∀ c,IntKind.i64.wrap (((2:Nat):Int)*((scI s 2 1 Ni No c).bs:Int))=((2*s.bs:Nat):Int):=fun _=>nidx s.bs (by omega)
 cases ii with
 | none =>
  refine callsA_of_ev c25_ ?_
  conv=>whnf
  refine Or.inr ⟨{l:List Int // l.length=2*s.bs+8},fun ⟨l,_⟩=>iiSt0 b io N c oo on oc s.bs Ni No F G D xs ys out z s l,?_,fun ⟨l,hl⟩ => ?_⟩
  ·conv=>whnf
   refine dropF_get (tlC_get hF hG hD (i:=11) rfl) ?_
   conv=>whnf
   refine dropF_get (tlC_get hF hG hD (i:=1) rfl) ?_
   conv=>whnf
   rw [hB1,hB2]
   refine ⟨fun g => ?_,fun g => ?_⟩
   ·conv=>whnf
    refine dropF_get (tlC_get hF hG hD (i:=1) rfl) ?_
    conv=>whnf
    rw [hB1,hB2]
    refine ⟨⟨by omega,by omega,by omega,by omega,by omega⟩,?_⟩
    conv=>whnf
    refine ⟨Int,encI .i16,[],0,fun _=>rfl,rfl,?_⟩
    conv=>whnf
    refine Or.inr ?_
    conv=>whnf
    refine putF_to (n:=103) (by rw [tlC_length hF hG hD]; decide) (tlC_set hF hG hD (i:=11) (s':=scI s 2 1 Ni No (.sli 5 1 0 (2*s.bs+8) (2*s.bs+8))) rfl) ?_
    conv=>whnf
    exact ⟨⟨List.replicate (2*s.bs+8) 0,by simp⟩,[0,1,2,3,4,5],⟨rfl,embI z z F G G D s Ni No (2*s.bs+8) rfl rfl rfl rfl,rfl⟩,rfl,rfl,hrb _ _ _,trivial⟩
   exact absurd (of_decide_eq_false g) (by omega)
  conv=>whnf
  refine dropF_get (tlC_get hF hG hD (i:=11) rfl) ?_
  conv=>whnf
  refine dropF_get (tlC_get hF hG hD (i:=1) rfl) ?_
  conv=>whnf
  rw [hB1,hB2]
  refine ⟨⟨by omega,by omega,by omega⟩,?_⟩
  conv=>whnf
  refine ⟨fun _=>?_,fun h1 h2=>absurd h1 (by omega)⟩
  conv=>whnf
  refine ⟨trivial,?_⟩
  conv=>whnf
  dsimp -iota only
  refine ⟨by omega,0,rfl,?_⟩
  conv=>whnf
  rw [clr_eq (n:=2*s.bs+8) (by omega) (by omega) (by omega)]
  refine ⟨⟨by decide,by decide⟩,?_⟩
  conv=>whnf
  refine ⟨by rw [List.length_replicate]; omega,?_⟩
  conv=>whnf
  refine ⟨G,src_G hF hG hD (by omega),?_⟩
  conv=>whnf
  rw [put_eq (by omega) (by omega),show G++(List.replicate (2*s.bs+8) 0).drop G.length=buf0 s.bs G from by rw [hG,List.drop_replicate]; rfl]
  refine ⟨IIx s.bs s.inv io N c z G xs,fun j=>iiSt1 b io N c oo on oc s.bs s.inv Ni No F G D xs ys out z s j,fun j=>N - j.I.d,⟨ii0 hN hc hG hGS hz,[0,1,2,3,4,5],⟨rfl,embI _ _ F _ _ D s Ni No _ rfl (ii0_G hN hc hG hGS hz) (wr_nil out oo) rfl,rfl⟩,rfl,rfl,hrb _ _ _,rfl,rfl,trivial⟩,fun j => ?_⟩
  conv=>whnf
  refine ⟨fun h3 => ?_,fun h3 => ?_⟩
  ·have hjd:j.I.d<N:=by have:=of_decide_eq_true h3; omega
   obtain ⟨hjo,hjc⟩:=j.ho
   have hjo:=hjo hjd
   obtain ⟨m,hm⟩:∃ m,m=min (N - j.I.d) s.bs:=⟨_,rfl⟩
   have hjm:j.I.m=m:=by unfold IBat.m; rw [hN]; exact hm.symm
   have hin2:InOk b (io+j.I.d) ((xs.drop j.I.d).take m) D ys:=hin.cut _ _
   have hlen2:((xs.drop j.I.d).take m).length=m:=by rw [List.length_take,List.length_drop,hN]; omega
   have hx2:∀ x∈(xs.drop j.I.d).take m,S16 x:=fun x hx'=>hx x (List.mem_of_mem_drop (List.mem_of_mem_take hx'))
   have hjG:j.G'=G:=by unfold IIx.G'; rw [if_pos hjd]
   conv=>whnf
   refine dropF_get (tlC_get hF (by rw [hjG]; exact hG) hD (i:=1) rfl) ?_
   conv=>whnf
   rw [mn_eq,show min (N - j.I.d) ((scI s 2 1 Ni No (.sli 5 1 0 (2*s.bs+8) (2*s.bs+8))).bs)=m from hm.symm]
   refine ⟨⟨by omega,by omega,by omega⟩,?_⟩
   conv=>whnf
   refine ⟨fun _=>?_,fun h1 h2=>absurd h1 (by omega)⟩
   conv=>whnf
   rw [hjo]
   refine ⟨⟨by omega,by omega,by omega⟩,?_⟩
   conv=>whnf
   refine ⟨fun _=>?_,fun h1 h2=>absurd h2 (by omega)⟩
   conv=>whnf
   refine ⟨trivial,?_⟩
   conv=>whnf
   dsimp -iota only
   refine CallsA.liftKE (H0:=[zB j.I.z (tlC F j.G' D (scI s 2 3 Ni No (.sli 1 1 0 (2*s.bs+8) (2*s.bs+8)))),sB j.l,sB ys,.dead,.dead,.dead]) [0,5,2,1,3,4]
    [zB j.I.z (tlC F j.G' D (scI s 2 1 Ni No (.sli 5 1 0 (2*s.bs+8) (2*s.bs+8)))),.dead,sB ys,.dead,.dead,sB j.l] ⟨rfl,rfl,rfl,trivial⟩ rfl
    ⟨congrArg some (zB_ren [0,5,2,1,3,4] j.I.z F j.G' D (scI s 2 3 Ni No (.sli 1 1 0 (2*s.bs+8) (2*s.bs+8)))).symm,rfl,rfl,rfl,rfl,rfl,(by decide:1<6),(by decide:3<6),(by decide:4<6),trivial⟩
    (by rcases hin2.b with rfl | rfl <;> rfl)
    (up2W w0 hT (oo:=8) (on:=2*s.bs) (oc:=2*s.bs) hin2.b (hin2.rd hF (by rw [hjG]; exact hG) hD _) hlen2 hx2 j.hz (tlC_nat rfl) (by omega) (by rw [j.hl]; omega) (by omega)) ?_
   rintro _ _ ⟨rfl,rfl⟩
   have he:dbl j.I.z ((xs.drop j.I.d).take m)=j.I.e:=by unfold IBat.e; rw [hjm]
   rw [he]
   refine ⟨.t [],[zB j.I.e.2 (tlC F j.G' D (scI s 2 1 Ni No (.sli 5 1 0 (2*s.bs+8) (2*s.bs+8)))),sB (wr out oo j.I.acc),sB ys,.dead,.dead,sB j.l1],rfl,⟨zB_ren _ _ _ _ _ _,rfl,rfl,rfl,rfl,rfl,trivial⟩,?_⟩
   have hl1:=j.l1len hN hjd hb0
   have hl1S:=j.l1S hN hjd hb0
   have hfl:=j.firl hN hjd hb0
   have hfir:=j.fir' hN hjd hb0
   have hnle:=(j.I.next (by omega) hb0).le
   have hna:(j.I.next (by omega) hb0).acc=j.I.acc++firL at12 15 s.inv (j.I.m*2*65536) (j.I.fir++j.I.e.1):=rfl
   rw [← hfl] at hna
   rw [hna,List.length_append,firL_length] at hnle
   change _≤(batI s.bs s.inv z G xs).1.length at hnle
   rw [hjm] at hna hnle hfir
   have hm0:0<m:=by omega
   have hcnt:0<cntI (m*2*65536) s.inv:=by rw [cntI_lt hR]; omega
   have hwl:(wr out oo j.I.acc).length=out.length:=wr_length _ _ _ (by omega)
   conv=>whnf
   refine ⟨trivial,?_⟩
   conv=>whnf
   dsimp -iota only
   rw [shl17 (by omega)]
   refine ⟨⟨by omega,by omega,by omega⟩,?_⟩
   conv=>whnf
   refine ⟨fun _=>?_,fun h1 h2=>absurd h2 (by omega)⟩
   conv=>whnf
   refine dropF_get (tlC_get hF (by rw [hjG]; exact hG) hD (i:=2) rfl) ?_
   conv=>whnf
   dsimp -iota only
   refine CallsA.liftKE (H0:=[sB (wr out oo j.I.acc),sB j.l1]) [1,5] [.dead,sB (wr out oo j.I.acc),.dead,.dead,.dead,sB j.l1] ⟨rfl,rfl,trivial⟩ rfl ⟨rfl,rfl,rfl,rfl,trivial⟩ rfl
    (iirIntW w0 hT12 (oo:=oo+j.I.acc.length) (on:=on - j.I.acc.length) (oc:=oc - j.I.acc.length) (BL:=2*s.bs+8) (BC:=2*s.bs+8) (lim:=m*2*65536) (r:=s.inv) hR (by omega) (by omega) (by omega) hl1S (by omega) (by omega) (by omega)) ?_
   rintro _ _ ⟨rfl,rfl⟩
   refine ⟨.o (.c (.val (.int .i64 (cntI (m*2*65536) s.inv)))),[zB j.I.e.2 (tlC F j.G' D (scI s 2 1 Ni No (.sli 5 1 0 (2*s.bs+8) (2*s.bs+8)))),sB (wr out oo (j.I.acc++firL at12 15 s.inv (m*2*65536) j.l1)),sB ys,.dead,.dead,sB j.l1],rfl,⟨rfl,congrArg sB (wr_wr _ _ _ _ _ rfl (by omega)),rfl,rfl,rfl,rfl,trivial⟩,?_⟩
   conv=>whnf
   refine ⟨trivial,?_⟩
   conv=>whnf
   dsimp -iota only
   have h7:IntKind.i64.wrap ((j.I.acc.length:Int)+((cntI (m*2*65536) s.inv:Nat):Int))=(((j.I.acc++firL at12 15 s.inv (m*2*65536) j.l1).length:Nat):Int):=by
    rw [wi64 (by omega),List.length_append,firL_length]
    omega
   rw [h7]
   refine ⟨⟨by omega,by omega,by omega⟩,?_⟩
   conv=>whnf
   refine ⟨fun hc1 => ?_,fun hc1 hc2 => ?_⟩
   ·have hm2:IntKind.i64.wrap ((m:Int)*((2:Nat):Int))=((2*m:Nat):Int):=by rw [wi64 (by omega)]; omega
    have hnx:(j.I.d+j.I.m<N→(io+j.I.d+m)=io+(j.I.d+j.I.m))∧N - (j.I.d+j.I.m)≤(j.c' - m):=by rw [hjm]; omega
    have hnd:N - (j.I.d+j.I.m)=N - j.I.d - m:=by rw [hjm]; omega
    conv=>whnf
    refine ⟨fun g => ?_,fun g => ?_⟩
    ·have g:0<N - j.I.d - m:=by have:=of_decide_eq_true g; omega
     conv=>whnf
     rw [hm2]
     refine ⟨⟨by omega,by omega,by omega⟩,?_⟩
     conv=>whnf
     refine ⟨fun _=>?_,fun h1 h2=>absurd h1 (by omega)⟩
     conv=>whnf
     refine ⟨⟨by omega,by omega,by omega⟩,?_⟩
     conv=>whnf
     refine ⟨fun _=>?_,fun h1 h2=>absurd h1 (by omega)⟩
     conv=>whnf
     refine ⟨trivial,?_⟩
     conv=>whnf
     refine ⟨by rw [hl1]; omega,?_⟩
     conv=>whnf
     have hl8:((j.l1.drop (2*m)).take 8).length=8:=by rw [List.length_take,List.length_drop,hl1]; omega
     refine ⟨(j.l1.drop (2*m)).take 8,⟨rfl,rfl,by rw [hl1]; omega,by rw [hl8]; omega,by rw [show min ((((2*s.bs+8:Nat):Int)).toNat - (((2*m:Nat):Int)).toNat) (((8:Nat):Int).toNat - Int.toNat 0)=8 by omega,show 0+(((2*m:Nat):Int)).toNat=2*m by omega]⟩,?_⟩
     rw [put_eq (by omega) (by omega),hl8]
     conv=>whnf
     refine ⟨trivial,?_⟩
     conv=>whnf
     refine ⟨j.next hN hjd hb0 ((io+j.I.d+m)) ((j.c' - m)) hnx hx,⟨[0,1,2,3,4,5],⟨rfl,embI _ _ F _ _ D s Ni No _ rfl ?_ (congrArg (wr out oo) hna) ?_,rfl⟩,rfl,rfl,?_,rfl,congrArg (fun a:List Int=>some (AV.o (.c (.val (.int .i64 ((a.length:Nat):Int)))))) hna.symm,trivial⟩,?_⟩
     ·rw [hjG]
      exact if_pos (show j.I.d+j.I.m<N by omega)
     ·show (if j.I.d+j.I.m<N then (j.l1.drop (2*j.I.m)).take 8++j.l1.drop 8 else j.l1)=_
      rw [if_pos (by omega),hjm]
     ·show some _=some (AV.ren _ (.o (.c (.sli b 1 ((io+j.I.d+m)) (N - (j.I.d+j.I.m)) ((j.c' - m))))))
      rw [hnd]
      exact hrb _ _ _
     show N - (j.I.d+j.I.m)<N - j.I.d
     omega
    have g:N - j.I.d - m=0:=by have:=of_decide_eq_false g; omega
    conv=>whnf
    rw [hm2]
    refine ⟨⟨by omega,by omega,by omega⟩,?_⟩
    conv=>whnf
    refine ⟨fun _=>?_,fun h1 h2=>absurd h1 (by omega)⟩
    conv=>whnf
    refine ⟨⟨by decide,by decide⟩,?_⟩
    conv=>whnf
    refine ⟨trivial,?_⟩
    conv=>whnf
    have hGG:j.G'.length=8:=by rw [hjG]; exact hG
    refine ⟨by show 50≤(tlC F j.G' D _).length+6; rw [tlC_length hF hGG hD]; decide,?_⟩
    conv=>whnf
    have hl8:((j.l1.drop (2*m)).take 8).length=8:=by rw [List.length_take,List.length_drop,hl1]; omega
    refine ⟨Int,encI .i16,[],(j.l1.drop (2*m)).take 8,fun _=>rfl,⟨rfl,rfl,by rw [hl1]; omega,by rw [hl8]; omega,by rw [show min ((((2*s.bs+8:Nat):Int)).toNat - (((2*m:Nat):Int)).toNat) (((8:Nat):Int).toNat)=8 by omega,show 0+(((2*m:Nat):Int)).toNat=2*m by omega]⟩,?_⟩
    rw [put_G hF hGG hD hl8 rfl rfl (by rw [hl8])]
    conv=>whnf
    refine ⟨trivial,?_⟩
    conv=>whnf
    refine ⟨j.next hN hjd hb0 ((io+j.I.d+m)) ((j.c' - m)) hnx hx,⟨[0,1,2,3,4,5],⟨rfl,embI _ _ F _ _ D s Ni No _ rfl ?_ (congrArg (wr out oo) hna) ?_,rfl⟩,rfl,rfl,?_,rfl,congrArg (fun a:List Int=>some (AV.o (.c (.val (.int .i64 ((a.length:Nat):Int)))))) hna.symm,trivial⟩,?_⟩
    ·show (if j.I.d+j.I.m<N then G else (((j.I.fir++j.I.e.1).drop (j.I.m*2)).take j.I.fir.length))=_
     rw [if_neg (by omega),hjm,← hfir]
    ·show (if j.I.d+j.I.m<N then (j.l1.drop (2*j.I.m)).take 8++j.l1.drop 8 else j.l1)=_
     rw [if_neg (by omega)]
    ·show some _=some (AV.ren _ (.o (.c (.sli b 1 ((io+j.I.d+m)) (N - (j.I.d+j.I.m)) ((j.c' - m))))))
     rw [hnd]
     skip;exact hrb _ _ _
    show N - (j.I.d+j.I.m)<N - j.I.d
    omega
   have hm2:IntKind.i64.wrap ((m:Int)*((2:Nat):Int))=((2*m:Nat):Int):=by rw [wi64 (by omega)]; omega
   have hnx:(j.I.d+j.I.m<N→(io+j.I.d)=io+(j.I.d+j.I.m))∧N - (j.I.d+j.I.m)≤0:=by rw [hjm]; omega
   have hnd:N - (j.I.d+j.I.m)=N - j.I.d - m:=by rw [hjm]; omega
   conv=>whnf
   refine ⟨fun g => ?_,fun g => ?_⟩
   ·exact absurd (of_decide_eq_true g) (by omega)
   have g:N - j.I.d - m=0:=by have:=of_decide_eq_false g; omega
   conv=>whnf
   rw [hm2]
   refine ⟨⟨by omega,by omega,by omega⟩,?_⟩
   conv=>whnf
   refine ⟨fun _=>?_,fun h1 h2=>absurd h1 (by omega)⟩
   conv=>whnf
   refine ⟨⟨by decide,by decide⟩,?_⟩
   conv=>whnf
   refine ⟨trivial,?_⟩
   conv=>whnf
   have hGG:j.G'.length=8:=by rw [hjG]; exact hG
   refine ⟨by show 50≤(tlC F j.G' D _).length+6; rw [tlC_length hF hGG hD]; decide,?_⟩
   conv=>whnf
   have hl8:((j.l1.drop (2*m)).take 8).length=8:=by rw [List.length_take,List.length_drop,hl1]; omega
   refine ⟨Int,encI .i16,[],(j.l1.drop (2*m)).take 8,fun _=>rfl,⟨rfl,rfl,by rw [hl1]; omega,by rw [hl8]; omega,by rw [show min ((((2*s.bs+8:Nat):Int)).toNat - (((2*m:Nat):Int)).toNat) (((8:Nat):Int).toNat)=8 by omega,show 0+(((2*m:Nat):Int)).toNat=2*m by omega]⟩,?_⟩
   rw [put_G hF hGG hD hl8 rfl rfl (by rw [hl8])]
   conv=>whnf
   refine ⟨trivial,?_⟩
   conv=>whnf
   refine ⟨j.next hN hjd hb0 ((io+j.I.d)) (0) hnx hx,⟨[0,1,2,3,4,5],⟨rfl,embI _ _ F _ _ D s Ni No _ rfl ?_ (congrArg (wr out oo) hna) ?_,rfl⟩,rfl,rfl,?_,rfl,congrArg (fun a:List Int=>some (AV.o (.c (.val (.int .i64 ((a.length:Nat):Int)))))) hna.symm,trivial⟩,?_⟩
   ·show (if j.I.d+j.I.m<N then G else (((j.I.fir++j.I.e.1).drop (j.I.m*2)).take j.I.fir.length))=_
    rw [if_neg (by omega),hjm,← hfir]
   ·show (if j.I.d+j.I.m<N then (j.l1.drop (2*j.I.m)).take 8++j.l1.drop 8 else j.l1)=_
    rw [if_neg (by omega)]
   ·show some _=some (AV.ren _ (.o (.c (.sli b 1 ((io+j.I.d)) (N - (j.I.d+j.I.m)) (0)))))
    rw [hnd]
    rw [show N - j.I.d - m=0 by omega];exact hrb _ _ _
   show N - (j.I.d+j.I.m)<N - j.I.d
   omega
  have h3:N - j.I.d=0:=by have:=of_decide_eq_false h3; omega
  have hfi:=j.I.fin (by omega)
  change batI s.bs s.inv z G xs=_ at hfi
  have hjG:j.G'=j.I.fir:=by unfold IIx.G'; rw [if_neg (by omega)]
  conv=>whnf
  refine Or.inl ⟨rfl,j.l,j.hl,?_⟩
  rw [hfi,hjG]
 | some l0 =>
  have hl0:l0.length=2*s.bs+8:=hii l0 rfl
  refine callsA_of_ev c25_ ?_
  conv=>whnf
  refine Or.inr ⟨{l:List Int // l.length=2*s.bs+8},fun ⟨l,_⟩=>iiSt0 b io N c oo on oc s.bs Ni No F G D xs ys out z s l,?_,fun ⟨l,hl⟩ => ?_⟩
  ·conv=>whnf
   refine dropF_get (tlC_get hF hG hD (i:=11) rfl) ?_
   conv=>whnf
   refine dropF_get (tlC_get hF hG hD (i:=1) rfl) ?_
   conv=>whnf
   rw [hB1,hB2]
   refine ⟨fun g => ?_,fun g => ?_⟩
   ·exact absurd (of_decide_eq_true g) (by omega)
   conv=>whnf
   refine ⟨⟨l0,hl0⟩,[0,1,2,3,4,5],⟨rfl,?_,rfl⟩,rfl,rfl,hrb _ _ _,trivial⟩
   show embH _ [zB z (tlC F G D (scI s 2 1 Ni No (.sli 5 1 0 l0.length l0.length))),sB out,sB ys,.dead,.dead,sB l0] _ _
   rw [hl0]
   exact embI z z F G G D s Ni No (2*s.bs+8) rfl rfl rfl rfl
  conv=>whnf
  refine dropF_get (tlC_get hF hG hD (i:=11) rfl) ?_
  conv=>whnf
  refine dropF_get (tlC_get hF hG hD (i:=1) rfl) ?_
  conv=>whnf
  rw [hB1,hB2]
  refine ⟨⟨by omega,by omega,by omega⟩,?_⟩
  conv=>whnf
  refine ⟨fun _=>?_,fun h1 h2=>absurd h1 (by omega)⟩
  conv=>whnf
  refine ⟨trivial,?_⟩
  conv=>whnf
  dsimp -iota only
  refine ⟨by omega,0,rfl,?_⟩
  conv=>whnf
  rw [clr_eq (n:=2*s.bs+8) (by omega) (by omega) (by omega)]
  refine ⟨⟨by decide,by decide⟩,?_⟩
  conv=>whnf
  refine ⟨by rw [List.length_replicate]; omega,?_⟩
  conv=>whnf
  refine ⟨G,src_G hF hG hD (by omega),?_⟩
  conv=>whnf
  rw [put_eq (by omega) (by omega),show G++(List.replicate (2*s.bs+8) 0).drop G.length=buf0 s.bs G from by rw [hG,List.drop_replicate]; rfl]
  refine ⟨IIx s.bs s.inv io N c z G xs,fun j=>iiSt1 b io N c oo on oc s.bs s.inv Ni No F G D xs ys out z s j,fun j=>N - j.I.d,⟨ii0 hN hc hG hGS hz,[0,1,2,3,4,5],⟨rfl,embI _ _ F _ _ D s Ni No _ rfl (ii0_G hN hc hG hGS hz) (wr_nil out oo) rfl,rfl⟩,rfl,rfl,hrb _ _ _,rfl,rfl,trivial⟩,fun j => ?_⟩
  conv=>whnf
  refine ⟨fun h3 => ?_,fun h3 => ?_⟩
  ·have hjd:j.I.d<N:=by have:=of_decide_eq_true h3; omega
   obtain ⟨hjo,hjc⟩:=j.ho
   have hjo:=hjo hjd
   obtain ⟨m,hm⟩:∃ m,m=min (N - j.I.d) s.bs:=⟨_,rfl⟩
   have hjm:j.I.m=m:=by unfold IBat.m; rw [hN]; exact hm.symm
   have hin2:InOk b (io+j.I.d) ((xs.drop j.I.d).take m) D ys:=hin.cut _ _
   have hlen2:((xs.drop j.I.d).take m).length=m:=by rw [List.length_take,List.length_drop,hN]; omega
   have hx2:∀ x∈(xs.drop j.I.d).take m,S16 x:=fun x hx'=>hx x (List.mem_of_mem_drop (List.mem_of_mem_take hx'))
   have hjG:j.G'=G:=by unfold IIx.G'; rw [if_pos hjd]
   conv=>whnf
   refine dropF_get (tlC_get hF (by rw [hjG]; exact hG) hD (i:=1) rfl) ?_
   conv=>whnf
   rw [mn_eq,show min (N - j.I.d) ((scI s 2 1 Ni No (.sli 5 1 0 (2*s.bs+8) (2*s.bs+8))).bs)=m from hm.symm]
   refine ⟨⟨by omega,by omega,by omega⟩,?_⟩
   conv=>whnf
   refine ⟨fun _=>?_,fun h1 h2=>absurd h1 (by omega)⟩
   conv=>whnf
   rw [hjo]
   refine ⟨⟨by omega,by omega,by omega⟩,?_⟩
   conv=>whnf
   refine ⟨fun _=>?_,fun h1 h2=>absurd h2 (by omega)⟩
   conv=>whnf
   refine ⟨trivial,?_⟩
   conv=>whnf
   dsimp -iota only
   refine CallsA.liftKE (H0:=[zB j.I.z (tlC F j.G' D (scI s 2 3 Ni No (.sli 1 1 0 (2*s.bs+8) (2*s.bs+8)))),sB j.l,sB ys,.dead,.dead,.dead]) [0,5,2,1,3,4]
    [zB j.I.z (tlC F j.G' D (scI s 2 1 Ni No (.sli 5 1 0 (2*s.bs+8) (2*s.bs+8)))),.dead,sB ys,.dead,.dead,sB j.l] ⟨rfl,rfl,rfl,trivial⟩ rfl
    ⟨congrArg some (zB_ren [0,5,2,1,3,4] j.I.z F j.G' D (scI s 2 3 Ni No (.sli 1 1 0 (2*s.bs+8) (2*s.bs+8)))).symm,rfl,rfl,rfl,rfl,rfl,(by decide:1<6),(by decide:3<6),(by decide:4<6),trivial⟩
    (by rcases hin2.b with rfl | rfl <;> rfl)
    (up2W w0 hT (oo:=8) (on:=2*s.bs) (oc:=2*s.bs) hin2.b (hin2.rd hF (by rw [hjG]; exact hG) hD _) hlen2 hx2 j.hz (tlC_nat rfl) (by omega) (by rw [j.hl]; omega) (by omega)) ?_
   rintro _ _ ⟨rfl,rfl⟩
   have he:dbl j.I.z ((xs.drop j.I.d).take m)=j.I.e:=by unfold IBat.e; rw [hjm]
   rw [he]
   refine ⟨.t [],[zB j.I.e.2 (tlC F j.G' D (scI s 2 1 Ni No (.sli 5 1 0 (2*s.bs+8) (2*s.bs+8)))),sB (wr out oo j.I.acc),sB ys,.dead,.dead,sB j.l1],rfl,⟨zB_ren _ _ _ _ _ _,rfl,rfl,rfl,rfl,rfl,trivial⟩,?_⟩
   have hl1:=j.l1len hN hjd hb0
   have hl1S:=j.l1S hN hjd hb0
   have hfl:=j.firl hN hjd hb0
   have hfir:=j.fir' hN hjd hb0
   have hnle:=(j.I.next (by omega) hb0).le
   have hna:(j.I.next (by omega) hb0).acc=j.I.acc++firL at12 15 s.inv (j.I.m*2*65536) (j.I.fir++j.I.e.1):=rfl
   rw [← hfl] at hna
   rw [hna,List.length_append,firL_length] at hnle
   change _≤(batI s.bs s.inv z G xs).1.length at hnle
   rw [hjm] at hna hnle hfir
   have hm0:0<m:=by omega
   have hcnt:0<cntI (m*2*65536) s.inv:=by rw [cntI_lt hR]; omega
   have hwl:(wr out oo j.I.acc).length=out.length:=wr_length _ _ _ (by omega)
   conv=>whnf
   refine ⟨trivial,?_⟩
   conv=>whnf
   dsimp -iota only
   rw [shl17 (by omega)]
   refine ⟨⟨by omega,by omega,by omega⟩,?_⟩
   conv=>whnf
   refine ⟨fun _=>?_,fun h1 h2=>absurd h2 (by omega)⟩
   conv=>whnf
   refine dropF_get (tlC_get hF (by rw [hjG]; exact hG) hD (i:=2) rfl) ?_
   conv=>whnf
   dsimp -iota only
   refine CallsA.liftKE (H0:=[sB (wr out oo j.I.acc),sB j.l1]) [1,5] [.dead,sB (wr out oo j.I.acc),.dead,.dead,.dead,sB j.l1] ⟨rfl,rfl,trivial⟩ rfl ⟨rfl,rfl,rfl,rfl,trivial⟩ rfl
    (iirIntW w0 hT12 (oo:=oo+j.I.acc.length) (on:=on - j.I.acc.length) (oc:=oc - j.I.acc.length) (BL:=2*s.bs+8) (BC:=2*s.bs+8) (lim:=m*2*65536) (r:=s.inv) hR (by omega) (by omega) (by omega) hl1S (by omega) (by omega) (by omega)) ?_
   rintro _ _ ⟨rfl,rfl⟩
   refine ⟨.o (.c (.val (.int .i64 (cntI (m*2*65536) s.inv)))),[zB j.I.e.2 (tlC F j.G' D (scI s 2 1 Ni No (.sli 5 1 0 (2*s.bs+8) (2*s.bs+8)))),sB (wr out oo (j.I.acc++firL at12 15 s.inv (m*2*65536) j.l1)),sB ys,.dead,.dead,sB j.l1],rfl,⟨rfl,congrArg sB (wr_wr _ _ _ _ _ rfl (by omega)),rfl,rfl,rfl,rfl,trivial⟩,?_⟩
   conv=>whnf
   refine ⟨trivial,?_⟩
   conv=>whnf
   dsimp -iota only
   have h7:IntKind.i64.wrap ((j.I.acc.length:Int)+((cntI (m*2*65536) s.inv:Nat):Int))=(((j.I.acc++firL at12 15 s.inv (m*2*65536) j.l1).length:Nat):Int):=by
    rw [wi64 (by omega),List.length_append,firL_length]
    omega
   rw [h7]
   refine ⟨⟨by omega,by omega,by omega⟩,?_⟩
   conv=>whnf
   refine ⟨fun hc1 => ?_,fun hc1 hc2 => ?_⟩
   ·have hm2:IntKind.i64.wrap ((m:Int)*((2:Nat):Int))=((2*m:Nat):Int):=by rw [wi64 (by omega)]; omega
    have hnx:(j.I.d+j.I.m<N→(io+j.I.d+m)=io+(j.I.d+j.I.m))∧N - (j.I.d+j.I.m)≤(j.c' - m):=by rw [hjm]; omega
    have hnd:N - (j.I.d+j.I.m)=N - j.I.d - m:=by rw [hjm]; omega
    conv=>whnf
    refine ⟨fun g => ?_,fun g => ?_⟩
    ·have g:0<N - j.I.d - m:=by have:=of_decide_eq_true g; omega
     conv=>whnf
     rw [hm2]
     refine ⟨⟨by omega,by omega,by omega⟩,?_⟩
     conv=>whnf
     refine ⟨fun _=>?_,fun h1 h2=>absurd h1 (by omega)⟩
     conv=>whnf
     refine ⟨⟨by omega,by omega,by omega⟩,?_⟩
     conv=>whnf
     refine ⟨fun _=>?_,fun h1 h2=>absurd h1 (by omega)⟩
     conv=>whnf
     refine ⟨trivial,?_⟩
     conv=>whnf
     refine ⟨by rw [hl1]; omega,?_⟩
     conv=>whnf
     have hl8:((j.l1.drop (2*m)).take 8).length=8:=by rw [List.length_take,List.length_drop,hl1]; omega
     refine ⟨(j.l1.drop (2*m)).take 8,⟨rfl,rfl,by rw [hl1]; omega,by rw [hl8]; omega,by rw [show min ((((2*s.bs+8:Nat):Int)).toNat - (((2*m:Nat):Int)).toNat) (((8:Nat):Int).toNat - Int.toNat 0)=8 by omega,show 0+(((2*m:Nat):Int)).toNat=2*m by omega]⟩,?_⟩
     rw [put_eq (by omega) (by omega),hl8]
     conv=>whnf
     refine ⟨trivial,?_⟩
     conv=>whnf
     refine ⟨j.next hN hjd hb0 ((io+j.I.d+m)) ((j.c' - m)) hnx hx,⟨[0,1,2,3,4,5],⟨rfl,embI _ _ F _ _ D s Ni No _ rfl ?_ (congrArg (wr out oo) hna) ?_,rfl⟩,rfl,rfl,?_,rfl,congrArg (fun a:List Int=>some (AV.o (.c (.val (.int .i64 ((a.length:Nat):Int)))))) hna.symm,trivial⟩,?_⟩
     ·rw [hjG]
      exact if_pos (show j.I.d+j.I.m<N by omega)
     ·show (if j.I.d+j.I.m<N then (j.l1.drop (2*j.I.m)).take 8++j.l1.drop 8 else j.l1)=_
      rw [if_pos (by omega),hjm]
     ·show some _=some (AV.ren _ (.o (.c (.sli b 1 ((io+j.I.d+m)) (N - (j.I.d+j.I.m)) ((j.c' - m))))))
      rw [hnd]
      exact hrb _ _ _
     show N - (j.I.d+j.I.m)<N - j.I.d
     omega
    have g:N - j.I.d - m=0:=by have:=of_decide_eq_false g; omega
    conv=>whnf
    rw [hm2]
    refine ⟨⟨by omega,by omega,by omega⟩,?_⟩
    conv=>whnf
    refine ⟨fun _=>?_,fun h1 h2=>absurd h1 (by omega)⟩
    conv=>whnf
    refine ⟨⟨by decide,by decide⟩,?_⟩
    conv=>whnf
    refine ⟨trivial,?_⟩
    conv=>whnf
    have hGG:j.G'.length=8:=by rw [hjG]; exact hG
    refine ⟨by show 50≤(tlC F j.G' D _).length+6; rw [tlC_length hF hGG hD]; decide,?_⟩
    conv=>whnf
    have hl8:((j.l1.drop (2*m)).take 8).length=8:=by rw [List.length_take,List.length_drop,hl1]; omega
    refine ⟨Int,encI .i16,[],(j.l1.drop (2*m)).take 8,fun _=>rfl,⟨rfl,rfl,by rw [hl1]; omega,by rw [hl8]; omega,by rw [show min ((((2*s.bs+8:Nat):Int)).toNat - (((2*m:Nat):Int)).toNat) (((8:Nat):Int).toNat)=8 by omega,show 0+(((2*m:Nat):Int)).toNat=2*m by omega]⟩,?_⟩
    rw [put_G hF hGG hD hl8 rfl rfl (by rw [hl8])]
    conv=>whnf
    refine ⟨trivial,?_⟩
    conv=>whnf
    refine ⟨j.next hN hjd hb0 ((io+j.I.d+m)) ((j.c' - m)) hnx hx,⟨[0,1,2,3,4,5],⟨rfl,embI _ _ F _ _ D s Ni No _ rfl ?_ (congrArg (wr out oo) hna) ?_,rfl⟩,rfl,rfl,?_,rfl,congrArg (fun a:List Int=>some (AV.o (.c (.val (.int .i64 ((a.length:Nat):Int)))))) hna.symm,trivial⟩,?_⟩
    ·show (if j.I.d+j.I.m<N then G else (((j.I.fir++j.I.e.1).drop (j.I.m*2)).take j.I.fir.length))=_
     rw [if_neg (by omega),hjm,← hfir]
    ·show (if j.I.d+j.I.m<N then (j.l1.drop (2*j.I.m)).take 8++j.l1.drop 8 else j.l1)=_
     rw [if_neg (by omega)]
    ·show some _=some (AV.ren _ (.o (.c (.sli b 1 ((io+j.I.d+m)) (N - (j.I.d+j.I.m)) ((j.c' - m))))))
     rw [hnd]
     skip;exact hrb _ _ _
    show N - (j.I.d+j.I.m)<N - j.I.d
    omega
   have hm2:IntKind.i64.wrap ((m:Int)*((2:Nat):Int))=((2*m:Nat):Int):=by rw [wi64 (by omega)]; omega
   have hnx:(j.I.d+j.I.m<N→(io+j.I.d)=io+(j.I.d+j.I.m))∧N - (j.I.d+j.I.m)≤0:=by rw [hjm]; omega
   have hnd:N - (j.I.d+j.I.m)=N - j.I.d - m:=by rw [hjm]; omega
   conv=>whnf
   refine ⟨fun g => ?_,fun g => ?_⟩
   ·exact absurd (of_decide_eq_true g) (by omega)
   have g:N - j.I.d - m=0:=by have:=of_decide_eq_false g; omega
   conv=>whnf
   rw [hm2]
   refine ⟨⟨by omega,by omega,by omega⟩,?_⟩
   conv=>whnf
   refine ⟨fun _=>?_,fun h1 h2=>absurd h1 (by omega)⟩
   conv=>whnf
   refine ⟨⟨by decide,by decide⟩,?_⟩
   conv=>whnf
   refine ⟨trivial,?_⟩
   conv=>whnf
   have hGG:j.G'.length=8:=by rw [hjG]; exact hG
   refine ⟨by show 50≤(tlC F j.G' D _).length+6; rw [tlC_length hF hGG hD]; decide,?_⟩
   conv=>whnf
   have hl8:((j.l1.drop (2*m)).take 8).length=8:=by rw [List.length_take,List.length_drop,hl1]; omega
   refine ⟨Int,encI .i16,[],(j.l1.drop (2*m)).take 8,fun _=>rfl,⟨rfl,rfl,by rw [hl1]; omega,by rw [hl8]; omega,by rw [show min ((((2*s.bs+8:Nat):Int)).toNat - (((2*m:Nat):Int)).toNat) (((8:Nat):Int).toNat)=8 by omega,show 0+(((2*m:Nat):Int)).toNat=2*m by omega]⟩,?_⟩
   rw [put_G hF hGG hD hl8 rfl rfl (by rw [hl8])]
   conv=>whnf
   refine ⟨trivial,?_⟩
   conv=>whnf
   refine ⟨j.next hN hjd hb0 ((io+j.I.d)) (0) hnx hx,⟨[0,1,2,3,4,5],⟨rfl,embI _ _ F _ _ D s Ni No _ rfl ?_ (congrArg (wr out oo) hna) ?_,rfl⟩,rfl,rfl,?_,rfl,congrArg (fun a:List Int=>some (AV.o (.c (.val (.int .i64 ((a.length:Nat):Int)))))) hna.symm,trivial⟩,?_⟩
   ·show (if j.I.d+j.I.m<N then G else (((j.I.fir++j.I.e.1).drop (j.I.m*2)).take j.I.fir.length))=_
    rw [if_neg (by omega),hjm,← hfir]
   ·show (if j.I.d+j.I.m<N then (j.l1.drop (2*j.I.m)).take 8++j.l1.drop 8 else j.l1)=_
    rw [if_neg (by omega)]
   ·show some _=some (AV.ren _ (.o (.c (.sli b 1 ((io+j.I.d)) (N - (j.I.d+j.I.m)) (0)))))
    rw [hnd]
    rw [show N - j.I.d - m=0 by omega];exact hrb _ _ _
   show N - (j.I.d+j.I.m)<N - j.I.d
   omega
  have h3:N - j.I.d=0:=by have:=of_decide_eq_false h3; omega
  have hfi:=j.I.fin (by omega)
  change batI s.bs s.inv z G xs=_ at hfi
  have hjG:j.G'=j.I.fir:=by unfold IIx.G'; rw [if_neg (by omega)]
  conv=>whnf
  refine Or.inl ⟨rfl,j.l,j.hl,?_⟩
  rw [hfi,hjG]
def dnC (x:Option (List Int)):CV:=match x with
 | none=>nilC
 | some l => .sli 5 1 0 l.length l.length
def dnB (x:Option (List Int)):List Blk:=match x with
 | none=>[]
 | some l=>[bB l]
def scD (s:Sc) (k i o L ni no:Nat) (c:CV):Sc:={ s with co := .vec k L,i16 := .sli i 1 0 ni ni,o16 := .sli o 1 0 no no,ii:=nilC,dn:=c }
def batD (kd:Nat) (at_:List Int→Int→Int) (bs R:Nat) (s:Int × Int) (f xs:List Int):List Int × (Int × Int) × List Int:=bat (arRun kd) 1 bs R 6 at_ xs.length s f xs
def ArK (kd:Nat) (s:Int × Int):Prop:=ArOk (tapsAR kd).1 (tapsAR kd).2 (mAR kd) s
theorem arRun_len (kd:Nat) (s:Int × Int) (xs:List Int):(arRun kd s xs).1.length=xs.length:=runL_length _ _ _
theorem arRun_ok {kd:Nat} {s:Int × Int} (h:ArK kd s) {xs:List Int} (hx:∀ x∈xs,S16 x):ArK kd (arRun kd s xs).2 :=
 runL_inv (I:=ArK kd) (V:=S16) (fun _ _ h1 h2=>(arS_ok h1 h2).1) xs s h hx
theorem arRun_bd {kd:Nat} {s:Int × Int} (h:ArK kd s) {xs:List Int} (hx:∀ x∈xs,S16 x):∀ y∈(arRun kd s xs).1,iB 150000000 y :=
 runL_out (I:=ArK kd) (V:=S16) (W:=iB 150000000) (fun _ _ h1 h2=>(arS_ok h1 h2).1) (fun _ _ h1 h2=>(arS_ok h1 h2).2) xs s h hx
theorem iB_zero:iB 150000000 0:=by unfold iB; omega
structure DDx (kd:Nat) (at_:List Int→Int→Int) (w bs R io N c q:Nat) (s0:Int × Int) (f0 xs:List Int) where
 I:IBat (arRun kd) 1 bs R 6 at_ s0 f0 xs
 o:Nat
 c':Nat
 k:Nat
 l:List Int
 ho:(I.d<N→o=io+I.d)∧N - I.d≤c'
 hl:l.length=bs+36
 hlS:∀ x∈l,iB 150000000 x
 hz:ArK kd I.z
 hf:I.fir.length=w
 hfS:∀ x∈I.fir,iB 150000000 x
 hfl:I.d<N→l.take w=I.fir
 hk:N - I.d=0→k≤bs∧(l.drop k).take w=I.fir
 hq:q∣N - I.d
section
variable {kd:Nat} {at_:List Int→Int→Int} {w bs R io N c q:Nat} {s0:Int × Int} {f0 xs:List Int} (j:DDx kd at_ w bs R io N c q s0 f0 xs)
def DDx.l1:List Int:=Go.Proofs.YtbpogapddpacoaaGreatDoor.wr j.l w j.I.e.1
theorem DDx.elen (hN:xs.length=N) (hd:j.I.d<N):j.I.e.1.length=j.I.m:=by
 unfold IBat.e
 rw [arRun_len,List.length_take,List.length_drop]
 unfold IBat.m
 omega
theorem DDx.l1e (hN:xs.length=N) (hd:j.I.d<N):j.l1=(j.I.fir++j.I.e.1)++j.l.drop (w+j.I.m):=by
 unfold DDx.l1 wr
 rw [j.hfl hd,j.elen hN hd,List.append_assoc]
theorem DDx.l1len (hN:xs.length=N) (hd:j.I.d<N) (hw:w≤36):j.l1.length=bs+36:=by
 unfold DDx.l1
 have h1:=j.elen hN hd
 have h2:=j.hl
 rw [wr_length _ _ _ (by unfold IBat.m at h1; omega),h2]
theorem DDx.l1S (_hN:xs.length=N) (_hd:j.I.d<N) (_hw:w≤36) (hx:∀ x∈xs,S16 x):∀ x∈j.l1,iB 150000000 x:=by
 intro x hx'
 unfold DDx.l1 wr at hx'
 rcases List.mem_append.1 hx' with h | h
 ·exact j.hlS x (List.mem_of_mem_take h)
 rcases List.mem_append.1 h with h | h
 ·exact arRun_bd j.hz (fun y hy=>hx y (List.mem_of_mem_drop (List.mem_of_mem_take hy))) x h
 exact j.hlS x (List.mem_of_mem_drop h)
theorem DDx.fir' (hN:xs.length=N) (hd:j.I.d<N) (hw:w≤36):(j.l1.drop j.I.m).take w=((j.I.fir++j.I.e.1).drop (j.I.m*1)).take j.I.fir.length:=by
 have h1:=j.elen hN hd
 have h2:=j.hf
 rw [j.l1e hN hd,List.drop_append_of_le_length (by rw [List.length_append]; omega),List.take_append_of_le_length (by rw [List.length_drop,List.length_append]; omega),h2,Nat.mul_one]
theorem DDx.firl (hN:xs.length=N) (hd:j.I.d<N) (_hw:w≤36) (hat:LocW w at_):firL at_ 6 R (j.I.m*1*65536) j.l1=firL at_ 6 R (j.I.m*1*65536) (j.I.fir++j.I.e.1):=by
 have h1:=j.elen hN hd
 have h2:=j.hf
 rw [j.l1e hN hd]
 by_cases hR:0<R
 ·exact firL_loc hat hR (by rw [List.length_append]; omega)
 have:R=0:=by omega
 subst this
 simp [firL,cntI]
def DDx.next (hN:xs.length=N) (hd:j.I.d<N) (hb:0<bs) (hw:w≤36) (o' c':Nat) (ho:(j.I.d+j.I.m<N→o'=io+(j.I.d+j.I.m))∧N - (j.I.d+j.I.m)≤c') (hx:∀ x∈xs,S16 x) (hr:j.I.d+j.I.m<N) (hqb:q∣bs):DDx kd at_ w bs R io N c q s0 f0 xs where
 I:=j.I.next (by omega) hb
 o:=o'
 c':=c'
 k:=j.I.m
 l:=(j.l1.drop j.I.m).take w++j.l1.drop w
 ho:=ho
 hl:=by
  have h1:=j.l1len hN hd hw
  rw [List.length_append,List.length_take,List.length_drop,List.length_drop,h1]
  unfold IBat.m at *
  omega
 hlS:=by
  have h1:=j.l1S hN hd hw hx
  intro x hx'
  rcases List.mem_append.1 hx' with h | h
  ·exact h1 x (List.mem_of_mem_drop (List.mem_of_mem_take h))
  exact h1 x (List.mem_of_mem_drop h)
 hz:=arRun_ok j.hz fun x h=>hx x (List.mem_of_mem_drop (List.mem_of_mem_take h))
 hf:=by
  have h1:=j.elen hN hd
  have h2:=j.hf
  show (((j.I.fir++j.I.e.1).drop (j.I.m*1)).take j.I.fir.length).length=w
  rw [List.length_take,List.length_drop,List.length_append]
  omega
 hfS:=by
  have h3:=arRun_bd j.hz (xs:=(xs.drop j.I.d).take j.I.m) fun y hy=>hx y (List.mem_of_mem_drop (List.mem_of_mem_take hy))
  intro x hx'
  rcases List.mem_append.1 (List.mem_of_mem_drop (List.mem_of_mem_take hx')) with h | h
  ·exact j.hfS x h
  exact h3 x h
 hfl:=fun _=>by
  have h1:=j.l1len hN hd hw
  rw [List.take_left' (by rw [List.length_take,List.length_drop,h1]; unfold IBat.m at *; omega)]
  exact j.fir' hN hd hw
 hk:=fun h=>absurd h (by show ¬ N - (j.I.d+j.I.m)=0; omega)
 hq:=by
  have h1:j.I.m=bs:=by unfold IBat.m at *; omega
  show q∣N - (j.I.d+j.I.m)
  rw [← Nat.sub_sub,h1]
  exact Nat.dvd_sub j.hq hqb
end
theorem shl16 {m:Nat} (h:m≤1000):IntKind.i32.wrap (IntKind.i32.wrap (m:Int)*2 ^ min 16 IntKind.i32.bits)=((m*1*65536:Nat):Int):=by
 rw [wi32 (n:=(m:Int)) (by omega),show min 16 IntKind.i32.bits=16 from rfl,show (2:Int) ^ 16=65536 from rfl,wi32 (by omega)]
 omega
theorem src_F {w0:World} {z:Z6} {F G D:List Int} {s:Sc} {H:List Blk} (hF:F.length=36) (hG:G.length=8) (hD:D.length=48) {w k:Nat} (hw:w≤36) (hk:k=w):src w0 (zB z (tlC F G D s)::H) (encI .i32) [] 1 (.sli 0 1 6 k 36) (F.take w):=by
 subst hk
 have hl:(F.take k).length=k:=by rw [List.length_take]; omega
 refine ⟨rfl,hl,?_⟩
 show dropF 0 (tlC F G D s) fun l=>takeF (k*1) l fun r=>flat (encI .i32) [] (F.take k)=r
 rw [Nat.mul_one]
 exact dropF_take (Nat.zero_le _) (tlC_fir hF hG hD hw) (by rw [List.length_map,hl]) (flat_I _ _)
theorem put_F {z:Z6} {F G D F':List Int} {s:Sc} (hF:F.length=36) (hG:G.length=8) (hD:D.length=48) (hF':F'.length≤36) {T:List CV} {n k:Nat} (hT:T=(ci .i32 z.a::ci .i32 z.b::ci .i32 z.c::ci .i32 z.d::ci .i32 z.e::ci .i32 z.f::tlC F G D s)) (hn:n=6) (hk:k=6+F'.length) :
 Blk.cells 46 (T.take n++(flat (encI .i32) [] F'++T.drop k))=zB z (tlC (F'++F.drop F'.length) G D s):=by
 subst hT hn hk
 rw [flat_I,← tlC_putF hF hG hD hF']
 have e:(6+F'.length)=F'.length+1+1+1+1+1+1:=by omega
 rw [e]
 rfl
def ddSt0 (b io N c oo on oc bs L Ni No:Nat) (F G D _xs ys out co:List Int) (z:Z6) (s:Sc) (l:List Int):S :=
 ⟨[(0,.o (.c (.ptr 0 0))),(1,.o (.c (.sli 1 1 oo on oc))),(2,.o (.c (.sli b 1 io N c)))],[zB z (tlC F G D (scD s 3 2 1 L Ni No (.sli 5 1 0 (bs+36) (bs+36)))),sB out,sB ys,kB co,.dead,bB l]⟩
def ddSt1 (b io N c oo on oc L cc Ni No:Nat) {kd:Nat} {at_:List Int→Int→Int} {w bs R q:Nat} {s0:Int × Int} {f0 xs:List Int} (F G D ys out co:List Int) (s:Sc) (j:DDx kd at_ w bs R io N c q s0 f0 xs):S :=
 ⟨[(0,.o (.c (.ptr 0 0))),(1,.o (.c (.sli 1 1 oo on oc))),(2,.o (.c (.sli b 1 j.o (N - j.I.d) j.c'))),(6,.o (.c (.sli 5 1 0 (bs+36) (bs+36)))),(7,.o (.c (.sli 3 1 2 (L - 2) (cc - 2)))),(8,.o (.c (.val (.int .i64 j.I.acc.length)))),(9,.o (.c (.val (.int .i64 j.k))))],
  [zB (zA j.I.z) (tlC F G D (scD s 3 2 1 L Ni No (.sli 5 1 0 (bs+36) (bs+36)))),sB (wr out oo j.I.acc),sB ys,kB co,.dead,bB j.l]⟩
def ddSt2 (bs L Ni No:Nat) (F G D ys out co:List Int) (s:Sc) (z:Int × Int) (l:List Int) (k:Nat):S :=
 ⟨[(0,.o (.c (.ptr 0 0))),(6,.o (.c (.sli 5 1 0 (bs+36) (bs+36)))),(9,.o (.c (.val (.int .i64 k))))],
  [zB (zA z) (tlC F G D (scD s 3 2 1 L Ni No (.sli 5 1 0 (bs+36) (bs+36)))),sB out,sB ys,kB co,.dead,bB l]⟩
theorem embDD (z z':Z6) (F G D:List Int) (s:Sc) (L ni no k:Nat) {o o' y co l l':List Int} (hz:z=z') (ho:o=o') (hl:l=l') :
 embH [0,1,2,3,4,5] [zB z' (tlC F G D (scD s 3 2 1 L ni no (.sli 5 1 0 k k))),sB o',sB y,kB co,.dead,bB l'] [zB z (tlC F G D (scD s 3 2 1 L ni no (.sli 5 1 0 k k))),sB o,sB y,kB co,.dead,bB l] [0,1,2,3,4,5]:=by
 subst hz ho hl
 exact ⟨congrArg some (zB_ren [0,1,2,3,4,5] z F G D (scD s 3 2 1 L ni no (.sli 5 1 0 k k))).symm,rfl,rfl,rfl,rfl,rfl,rfl,rfl,(by decide:4<6),rfl,rfl,trivial⟩
def dd0 {kd:Nat} {at_:List Int→Int→Int} {w bs R io N c q:Nat} {s0:Int × Int} {F xs:List Int} (hF:F.length=36) (hw:w≤36) (_hN:xs.length=N) (hc:N≤c) (hFS:∀ x∈F,iB 150000000 x) (hz:ArK kd s0) (hq:q∣N):DDx kd at_ w bs R io N c q s0 (F.take w) xs where
 I:=⟨xs.length,[],s0,F.take w,0,rfl,Nat.zero_le _,Nat.le_refl _⟩
 o:=io
 c':=c
 k:=0
 l:=F.take w++List.replicate (bs+36 - w) 0
 ho:=⟨fun _=>rfl,by show N - 0≤c; omega⟩
 hl:=by simp; omega
 hlS:=by
  intro x hx
  rcases List.mem_append.1 hx with h1 | h1
  ·exact hFS x (List.mem_of_mem_take h1)
  rw [List.eq_of_mem_replicate h1]; exact iB_zero
 hz:=hz
 hf:=by simp; omega
 hfS:=fun x hx=>hFS x (List.mem_of_mem_take hx)
 hfl:=fun _=>List.take_left' (by simp; omega)
 hk:=fun _=>⟨Nat.zero_le _,List.take_left' (by simp; omega)⟩
 hq:=hq
def DnOk (w0:World) (w fr L R:Nat) (at_:List Int→Int→Int) (co:List Int):Prop := ∀ (cc oo on oc BL lim:Nat) (z:Z6) (tl:List CV) (out buf:List Int),tl[95]? = some (ci .i64 (w:Nat))→tl[96]? = some (ci .i64 (fr:Nat))→L≤cc→lim+R<1000000000 →
 BL≤buf.length→(∀ x∈buf,iB 150000000 x)→Nat6 tl→lim / 65536+w≤BL→cntI lim R≤on→oo+cntI lim R≤out.length →
 CallsA Tryz.prog w0 71 [.c (.ptr 0 0),.c (.sli 1 1 oo on oc),.c (.sli 2 1 0 BL BL),.c (.sli 3 1 2 (L - 2) (cc - 2)),.c (.val (.int .i32 lim)),.c (.val (.int .i32 R))] [zB z tl,sB out,bB buf,kB co,.dead,.dead]
  fun v H=>v = .o (.c (.val (.int .i64 (cntI lim R))))∧H=[zB z tl,sB (wr out oo (firL at_ 6 R lim buf)),bB buf,kB co,.dead,.dead]
theorem downfirW (w0:World) {b io N c oo on oc bs R w fr L kd q Ni No:Nat} {F G D xs ys out co:List Int} {at_:List Int→Int→Int} {z:Int × Int} {s:Sc} {dn:Option (List Int)} (hdn:DnOk w0 w fr L R at_ co) (hat:LocW w at_) (hbs:s.bs=bs) (hinv:s.inv=R) (hord:s.ord=w) (hfr:s.fr=fr)
 (hF:F.length=36) (hG:G.length=8) (hD:D.length=48) (hFS:∀ x∈F,iB 150000000 x) (hz:ArK kd z) (hx:∀ x∈xs,S16 x) (hN:xs.length=N) (hin:InOk b io xs D ys) (hc:N≤c) (hb0:0<bs) (hb1:bs≤1000) (hR:0<R) (hR1:R≤500000000) (hw:w≤36) (hL:2<L)
 (hcl:co.length=L) (hc0:co[0]? = some (tapsAR kd).1) (hc1:co[1]? = some (tapsAR kd).2) (hq:q∣N) (hqb:q∣bs) (hq2:1<q)
 (hii:∀ l,dn=some l→l.length=bs+36) (hon:(batD kd at_ bs R z (F.take w) xs).1.length≤on) (_hoc:on≤oc) (hoo:oo+(batD kd at_ bs R z (F.take w) xs).1.length≤out.length) (hbig:out.length≤1000000000) (_hbigN:N≤1000000000) :
 CallsA Tryz.prog w0 26 [.c (.ptr 0 0),.c (.sli 1 1 oo on oc),.c (.sli b 1 io N c)] ([zB (zA z) (tlC F G D (scD s 3 2 1 L Ni No (dnC dn))),sB out,sB ys,kB co,.dead]++dnB dn)
  fun r H=>r = .t [] ∧ ∃ l',l'.length=bs+36∧H=[zB (zA (batD kd at_ bs R z (F.take w) xs).2.1) (tlC ((batD kd at_ bs R z (F.take w) xs).2.2++F.drop w) G D (scD s 3 2 1 L Ni No (.sli 5 1 0 (bs+36) (bs+36)))),sB (wr out oo (batD kd at_ bs R z (F.take w) xs).1),sB ys,kB co,.dead,bB l']:=by
 subst hbs hinv hord hfr
 have hO:(scD s 3 2 1 L Ni No (.sli 5 1 0 (s.bs+36) (s.bs+36))).ord=s.ord:=rfl
 have hI:(scD s 3 2 1 L Ni No (.sli 5 1 0 (s.bs+36) (s.bs+36))).inv=s.inv:=rfl
 have hB2:∀ c,IntKind.i64.wrap (((scD s 3 2 1 L Ni No c).bs:Int)+((36:Nat):Int))=((s.bs+36:Nat):Int):=by intro c; show IntKind.i64.wrap ((s.bs:Int)+_)=_; rw [wi64 (by omega)]; omega
 have hrb:∀ o n c,some (AV.o (.c (.sli b 1 o n c)))=some ((AV.o (.c (.sli b 1 o n c))).ren [0,1,2,3,4,5]):=by
  intro o n c
  rcases hin.b with rfl | rfl <;> rfl
 cases dn with
 | none =>
  refine callsA_of_ev c26_ ?_
  conv=>whnf
  refine Or.inr ⟨{l:List Int // l.length=s.bs+36},fun ⟨l,_⟩=>ddSt0 b io N c oo on oc s.bs L Ni No F G D xs ys out co (zA z) s l,?_,fun ⟨l,hl⟩ => ?_⟩
  ·conv=>whnf
   refine dropF_get (tlC_get hF hG hD (i:=12) rfl) ?_
   conv=>whnf
   refine dropF_get (tlC_get hF hG hD (i:=1) rfl) ?_
   conv=>whnf
   rw [hB2]
   refine ⟨fun g => ?_,fun g => ?_⟩
   ·conv=>whnf
    refine dropF_get (tlC_get hF hG hD (i:=1) rfl) ?_
    conv=>whnf
    rw [hB2]
    refine ⟨⟨by omega,by omega,by omega,by omega,by omega⟩,?_⟩
    conv=>whnf
    refine ⟨Int,encI .i32,[],0,fun _=>rfl,rfl,?_⟩
    conv=>whnf
    refine Or.inr ?_
    conv=>whnf
    refine putF_to (n:=104) (by rw [tlC_length hF hG hD]; decide) (tlC_set hF hG hD (i:=12) (s':=scD s 3 2 1 L Ni No (.sli 5 1 0 (s.bs+36) (s.bs+36))) rfl) ?_
    conv=>whnf
    exact ⟨⟨List.replicate (s.bs+36) 0,by simp⟩,[0,1,2,3,4,5],⟨rfl,embDD _ _ F G D s L Ni No (s.bs+36) rfl rfl rfl,rfl⟩,rfl,rfl,hrb _ _ _,trivial⟩
   exact absurd (of_decide_eq_false g) (by omega)
  conv=>whnf
  refine dropF_get (tlC_get hF hG hD (i:=12) rfl) ?_
  conv=>whnf
  refine dropF_get (tlC_get hF hG hD (i:=1) rfl) ?_
  conv=>whnf
  rw [hB2]
  refine ⟨⟨by omega,by omega,by omega⟩,?_⟩
  conv=>whnf
  refine ⟨fun _=>?_,fun h1 h2=>absurd h1 (by omega)⟩
  conv=>whnf
  refine ⟨trivial,?_⟩
  conv=>whnf
  dsimp -iota only
  refine ⟨by omega,0,rfl,?_⟩
  conv=>whnf
  rw [clr_eq (n:=s.bs+36) (by omega) (by omega) (by omega)]
  refine dropF_get (tlC_get hF hG hD (i:=3) rfl) ?_
  conv=>whnf
  rw [hO]
  refine ⟨⟨⟨by omega,by omega⟩,by decide⟩,?_⟩
  conv=>whnf
  refine ⟨trivial,?_⟩
  conv=>whnf
  refine ⟨by rw [List.length_replicate]; omega,?_⟩
  conv=>whnf
  refine ⟨F.take s.ord,src_F hF hG hD hw (by omega),?_⟩
  conv=>whnf
  have hFl:(F.take s.ord).length=s.ord:=by rw [List.length_take]; omega
  rw [put_eq (by omega) (by omega),show F.take s.ord++(List.replicate (s.bs+36) 0).drop (F.take s.ord).length=F.take s.ord++List.replicate (s.bs+36 - s.ord) 0 from by rw [hFl,List.drop_replicate]]
  refine ⟨trivial,?_⟩
  conv=>whnf
  refine dropF_get (tlC_get hF hG hD (i:=8) rfl) ?_
  conv=>whnf
  refine ⟨⟨by omega,by omega,by omega⟩,Or.inl ⟨fun cc hcc1 hcc2 => ?_,fun h=>absurd h (by omega),fun h=>absurd h (by omega)⟩⟩
  conv=>whnf
  dsimp -iota only
  refine Or.inr ⟨{p:(Int × Int) × List Int × List Int × Nat × List Int // batD kd at_ s.bs s.inv z (F.take s.ord) xs=(p.2.2.2.2,p.1,p.2.1)∧p.2.2.1.length=s.bs+36∧p.2.2.2.1≤s.bs∧(p.2.2.1.drop p.2.2.2.1).take s.ord=p.2.1},fun p=>ddSt2 s.bs L Ni No F G D ys (wr out oo p.1.2.2.2.2) co s p.1.1 p.1.2.2.1 p.1.2.2.2.1,?_,fun p => ?_⟩
  ·refine ⟨DDx kd at_ s.ord s.bs s.inv io N c q z (F.take s.ord) xs,fun j=>ddSt1 b io N c oo on oc L cc Ni No F G D ys out co s j,fun j=>N - j.I.d,⟨dd0 hF hw hN hc hFS hz hq,[0,1,2,3,4,5],⟨rfl,embDD _ _ F G D s L Ni No _ rfl (wr_nil out oo) rfl,rfl⟩,rfl,rfl,hrb _ _ _,rfl,rfl,rfl,rfl,trivial⟩,fun j => ?_⟩
   conv=>whnf
   refine ⟨fun h3 => ?_,fun h3 => ?_⟩
   ·have hjd:j.I.d<N:=by have:=of_decide_eq_true h3; omega
    obtain ⟨hjo,hjc⟩:=j.ho
    have hjo:=hjo hjd
    obtain ⟨m,hm⟩:∃ m,m=min (N - j.I.d) s.bs:=⟨_,rfl⟩
    have hjm:j.I.m=m:=by unfold IBat.m; rw [hN]; exact hm.symm
    have hin2:InOk b (io+j.I.d) ((xs.drop j.I.d).take m) D ys:=hin.cut _ _
    have hlen2:((xs.drop j.I.d).take m).length=m:=by rw [List.length_take,List.length_drop,hN]; omega
    have hx2:∀ x∈(xs.drop j.I.d).take m,S16 x:=fun x hx'=>hx x (List.mem_of_mem_drop (List.mem_of_mem_take hx'))
    have he:arRun kd j.I.z ((xs.drop j.I.d).take m)=j.I.e:=by unfold IBat.e; rw [hjm]
    conv=>whnf
    refine dropF_get (tlC_get hF hG hD (i:=1) rfl) ?_
    conv=>whnf
    rw [mn_eq,show min (N - j.I.d) ((scD s 3 2 1 L Ni No (.sli 5 1 0 (s.bs+36) (s.bs+36))).bs)=m from hm.symm]
    rw [hjo]
    refine Or.inr ⟨Unit,fun _=>⟨[(0,.o (.c (.ptr 0 0))),(1,.o (.c (.sli 1 1 oo on oc))),(2,.o (.c (.sli b 1 (io+j.I.d) (N - j.I.d) j.c'))),(6,.o (.c (.sli 5 1 0 (s.bs+36) (s.bs+36)))),(7,.o (.c (.sli 3 1 2 (L - 2) (cc - 2)))),(8,.o (.c (.val (.int .i64 j.I.acc.length)))),(9,.o (.c (.val (.int .i64 m))))],
     [zB (zA j.I.e.2) (tlC F G D (scD s 3 2 1 L Ni No (.sli 5 1 0 (s.bs+36) (s.bs+36)))),sB (wr out oo j.I.acc),sB ys,kB co,.dead,bB j.l1]⟩,?_,fun _=>?_⟩
    ·conv=>whnf
     refine dropF_get (tlC_get hF hG hD (i:=3) rfl) ?_
     conv=>whnf
     rw [hO]
     refine ⟨⟨by omega,by omega,by omega⟩,?_⟩
     conv=>whnf
     refine ⟨fun _=>?_,fun h1 h2=>absurd h1 (by omega)⟩
     conv=>whnf
     refine dropF_get (tlC_get hF hG hD (i:=8) rfl) ?_
     conv=>whnf
     refine ⟨?_,?_⟩
     ·conv=>whnf
      refine ⟨⟨by decide,by decide⟩,?_⟩
      conv=>whnf
      refine Or.inl ?_
      conv=>whnf
      refine ⟨⟨dropF_get (tlC_get hF hG hD (i:=8) rfl) ⟨rfl,rfl⟩,dropF_get (tlC_get hF hG hD (i:=3) rfl) ⟨rfl,rfl⟩,trivial⟩,?_⟩
      conv=>whnf
      refine ⟨⟨by omega,by omega,by omega⟩,?_⟩
      conv=>whnf
      refine ⟨fun _=>?_,fun h1 h2=>absurd h2 (by omega)⟩
      conv=>whnf
      refine ⟨⟨dropF_get (tlC_get hF hG hD (i:=8) rfl) ⟨rfl,rfl⟩,dropF_get (tlC_get hF hG hD (i:=3) rfl) ⟨rfl,rfl⟩,trivial⟩,?_⟩
      conv=>whnf
      dsimp -iota only
      refine CallsA.liftKE (H0:=[zB (zA j.I.z) (tlC F G D (scD s 3 2 4 L Ni No (.sli 1 1 0 (s.bs+36) (s.bs+36)))),bB j.l,sB ys,kB co,.dead,.dead]) [0,5,2,3,1,4]
       [zB (zA j.I.z) (tlC F G D (scD s 3 2 1 L Ni No (.sli 5 1 0 (s.bs+36) (s.bs+36)))),.dead,sB ys,kB co,.dead,bB j.l] ⟨rfl,rfl,rfl,rfl,trivial⟩ rfl
       ⟨congrArg some (zB_ren [0,5,2,3,1,4] (zA j.I.z) F G D (scD s 3 2 4 L Ni No (.sli 1 1 0 (s.bs+36) (s.bs+36)))).symm,rfl,rfl,rfl,rfl,rfl,rfl,rfl,(by decide:1<6),(by decide:4<6),trivial⟩
       (by rcases hin2.b with rfl | rfl <;> rfl)
       (ar2W w0 (oo:=0+s.ord) (on:=s.bs+36 - s.ord) (oc:=s.bs+36 - s.ord) (L:=L) hin2.b (hin2.rd hF hG hD _) hlen2 hx2 j.hz hc0 hc1 (by omega) (tlC_nat rfl) (by omega) (by rw [j.hl]; omega) (by omega)) ?_
      rintro _ _ ⟨rfl,rfl⟩
      rw [he]
      refine ⟨.t [],[zB (zA j.I.e.2) (tlC F G D (scD s 3 2 1 L Ni No (.sli 5 1 0 (s.bs+36) (s.bs+36)))),sB (wr out oo j.I.acc),sB ys,kB co,.dead,bB j.l1],rfl,⟨zB_ren _ _ _ _ _ _,rfl,rfl,rfl,rfl,congrArg bB (by unfold DDx.l1; rw [Nat.zero_add]),trivial⟩,?_⟩
      conv=>whnf
      refine ⟨trivial,?_⟩
      conv=>whnf
      exact ⟨(),[0,1,2,3,4,5],⟨rfl,embDD _ _ F G D s L Ni No _ rfl rfl rfl,rfl⟩,rfl,rfl,hrb _ _ _,rfl,rfl,rfl,rfl,trivial⟩
     conv=>whnf
     refine ⟨⟨by omega,by omega,by omega⟩,?_⟩
     conv=>whnf
     refine ⟨fun _=>?_,fun h1 h2=>absurd h2 (by omega)⟩
     conv=>whnf
     refine ⟨⟨dropF_get (tlC_get hF hG hD (i:=8) rfl) ⟨rfl,rfl⟩,dropF_get (tlC_get hF hG hD (i:=3) rfl) ⟨rfl,rfl⟩,trivial⟩,?_⟩
     conv=>whnf
     refine ⟨⟨by decide,by decide⟩,?_⟩
     conv=>whnf
     refine Or.inl ?_
     conv=>whnf
     refine ⟨⟨dropF_get (tlC_get hF hG hD (i:=8) rfl) ⟨rfl,rfl⟩,dropF_get (tlC_get hF hG hD (i:=3) rfl) ⟨rfl,rfl⟩,trivial⟩,?_⟩
     conv=>whnf
     dsimp -iota only
     refine CallsA.liftKE (H0:=[zB (zA j.I.z) (tlC F G D (scD s 3 2 4 L Ni No (.sli 1 1 0 (s.bs+36) (s.bs+36)))),bB j.l,sB ys,kB co,.dead,.dead]) [0,5,2,3,1,4]
      [zB (zA j.I.z) (tlC F G D (scD s 3 2 1 L Ni No (.sli 5 1 0 (s.bs+36) (s.bs+36)))),.dead,sB ys,kB co,.dead,bB j.l] ⟨rfl,rfl,rfl,rfl,trivial⟩ rfl
      ⟨congrArg some (zB_ren [0,5,2,3,1,4] (zA j.I.z) F G D (scD s 3 2 4 L Ni No (.sli 1 1 0 (s.bs+36) (s.bs+36)))).symm,rfl,rfl,rfl,rfl,rfl,rfl,rfl,(by decide:1<6),(by decide:4<6),trivial⟩
      (by rcases hin2.b with rfl | rfl <;> rfl)
      (ar2W w0 (oo:=0+s.ord) (on:=s.bs+36 - s.ord) (oc:=s.bs+36 - s.ord) (L:=L) hin2.b (hin2.rd hF hG hD _) hlen2 hx2 j.hz hc0 hc1 (by omega) (tlC_nat rfl) (by omega) (by rw [j.hl]; omega) (by omega)) ?_
     rintro _ _ ⟨rfl,rfl⟩
     rw [he]
     refine ⟨.t [],[zB (zA j.I.e.2) (tlC F G D (scD s 3 2 1 L Ni No (.sli 5 1 0 (s.bs+36) (s.bs+36)))),sB (wr out oo j.I.acc),sB ys,kB co,.dead,bB j.l1],rfl,⟨zB_ren _ _ _ _ _ _,rfl,rfl,rfl,rfl,congrArg bB (by unfold DDx.l1; rw [Nat.zero_add]),trivial⟩,?_⟩
     conv=>whnf
     refine ⟨trivial,?_⟩
     conv=>whnf
     exact ⟨(),[0,1,2,3,4,5],⟨rfl,embDD _ _ F G D s L Ni No _ rfl rfl rfl,rfl⟩,rfl,rfl,hrb _ _ _,rfl,rfl,rfl,rfl,trivial⟩
    have hl1:=j.l1len hN hjd hw
    have hl1S:=j.l1S hN hjd hw hx
    have hfl:=j.firl hN hjd hw hat
    have hfir:=j.fir' hN hjd hw
    have hnle:=(j.I.next (by omega) hb0).le
    have hna:(j.I.next (by omega) hb0).acc=j.I.acc++firL at_ 6 s.inv (j.I.m*1*65536) (j.I.fir++j.I.e.1):=rfl
    rw [← hfl] at hna
    rw [hna,List.length_append,firL_length] at hnle
    change _≤(batD kd at_ s.bs s.inv z (F.take s.ord) xs).1.length at hnle
    rw [hjm] at hna hnle hfir
    have hm0:0<m:=by omega
    have hcnt:0<cntI (m*1*65536) s.inv:=by rw [cntI_lt hR]; omega
    have hwl:(wr out oo j.I.acc).length=out.length:=wr_length _ _ _ (by omega)
    conv=>whnf
    rw [shl16 (by omega)]
    refine ⟨⟨by omega,by omega,by omega⟩,?_⟩
    conv=>whnf
    refine ⟨fun _=>?_,fun h1 h2=>absurd h2 (by omega)⟩
    conv=>whnf
    refine dropF_get (tlC_get hF hG hD (i:=2) rfl) ?_
    conv=>whnf
    rw [hI]
    dsimp -iota only
    refine CallsA.liftKE (H0:=[zB (zA j.I.e.2) (tlC F G D (scD s 3 4 1 L Ni No (.sli 2 1 0 (s.bs+36) (s.bs+36)))),sB (wr out oo j.I.acc),bB j.l1,kB co,.dead,.dead]) [0,1,5,3,2,4]
     [zB (zA j.I.e.2) (tlC F G D (scD s 3 2 1 L Ni No (.sli 5 1 0 (s.bs+36) (s.bs+36)))),sB (wr out oo j.I.acc),.dead,kB co,.dead,bB j.l1] ⟨rfl,rfl,rfl,rfl,trivial⟩ rfl
     ⟨congrArg some (zB_ren [0,1,5,3,2,4] (zA j.I.e.2) F G D (scD s 3 4 1 L Ni No (.sli 2 1 0 (s.bs+36) (s.bs+36)))).symm,rfl,rfl,rfl,rfl,rfl,rfl,rfl,(by decide:2<6),(by decide:4<6),trivial⟩ rfl
     (hdn cc (oo+j.I.acc.length) (on - j.I.acc.length) (oc - j.I.acc.length) (s.bs+36) (m*1*65536) (zA j.I.e.2) _ (wr out oo j.I.acc) j.l1 (tlC_get hF hG hD (i:=3) rfl) (tlC_get hF hG hD (i:=4) rfl) (by omega) (by omega) (by omega) hl1S (tlC_nat rfl) (by omega) (by omega) (by omega)) ?_
    rintro _ _ ⟨rfl,rfl⟩
    refine ⟨.o (.c (.val (.int .i64 (cntI (m*1*65536) s.inv)))),[zB (zA j.I.e.2) (tlC F G D (scD s 3 2 1 L Ni No (.sli 5 1 0 (s.bs+36) (s.bs+36)))),sB (wr out oo (j.I.acc++firL at_ 6 s.inv (m*1*65536) j.l1)),sB ys,kB co,.dead,bB j.l1],rfl,⟨zB_ren _ _ _ _ _ _,congrArg sB (wr_wr _ _ _ _ _ rfl (by omega)),rfl,rfl,rfl,rfl,trivial⟩,?_⟩
    conv=>whnf
    refine ⟨trivial,?_⟩
    conv=>whnf
    dsimp -iota only
    have h7:IntKind.i64.wrap ((j.I.acc.length:Int)+((cntI (m*1*65536) s.inv:Nat):Int))=(((j.I.acc++firL at_ 6 s.inv (m*1*65536) j.l1).length:Nat):Int):=by
     rw [wi64 (by omega),List.length_append,firL_length]
     omega
    rw [h7]
    have hnd:N - (j.I.d+j.I.m)=N - j.I.d - m:=by rw [hjm]; omega
    have hdv:N - j.I.d - m≠1:=by
     intro h1
     have hb3:m=s.bs:=by omega
     have h4:q∣N - j.I.d - s.bs:=Nat.dvd_sub j.hq hqb
     have h5:N - j.I.d - s.bs=1:=by omega
     rw [h5] at h4
     have:=Nat.le_of_dvd (by omega) h4
     omega
    refine ⟨⟨by omega,by omega,by omega⟩,?_⟩
    conv=>whnf
    refine ⟨fun hc1' => ?_,fun hc1' hc2' => ?_⟩
    ·have hnx:(j.I.d+j.I.m<N→io+j.I.d+m=io+(j.I.d+j.I.m))∧N - (j.I.d+j.I.m)≤j.c' - m:=by rw [hjm]; omega
     conv=>whnf
     refine ⟨fun g => ?_,fun g => ?_⟩
     ·have g:1<N - j.I.d - m:=by have:=of_decide_eq_true g; omega
      conv=>whnf
      refine dropF_get (tlC_get hF hG hD (i:=3) rfl) ?_
      conv=>whnf
      rw [hO]
      refine ⟨⟨by omega,by omega,by omega⟩,?_⟩
      conv=>whnf
      refine ⟨fun _=>?_,fun h1 h2=>absurd h1 (by omega)⟩
      conv=>whnf
      refine ⟨⟨by omega,by omega,by omega⟩,?_⟩
      conv=>whnf
      refine ⟨fun _=>?_,fun h1 h2=>absurd h1 (by omega)⟩
      conv=>whnf
      refine ⟨trivial,?_⟩
      conv=>whnf
      refine ⟨by rw [hl1]; omega,?_⟩
      conv=>whnf
      have hl8:((j.l1.drop m).take s.ord).length=s.ord:=by rw [List.length_take,List.length_drop,hl1]; omega
      refine ⟨(j.l1.drop m).take s.ord,⟨rfl,rfl,by rw [hl1]; omega,by rw [hl8]; omega,by rw [show min ((((s.bs+36:Nat):Int)).toNat - ((m:Int)).toNat) (((s.ord:Int)).toNat - Int.toNat 0)=s.ord by omega,show 0+((m:Int)).toNat=m by omega]⟩,?_⟩
      rw [put_eq (by omega) (by omega),hl8]
      conv=>whnf
      refine ⟨trivial,?_⟩
      conv=>whnf
      refine ⟨j.next hN hjd hb0 hw (io+j.I.d+m) (j.c' - m) hnx hx (by omega) hqb,⟨[0,1,2,3,4,5],⟨rfl,embDD _ _ F G D s L Ni No _ rfl (congrArg (wr out oo) hna) ?_,rfl⟩,rfl,rfl,?_,rfl,rfl,congrArg (fun a:List Int=>some (AV.o (.c (.val (.int .i64 ((a.length:Nat):Int)))))) hna.symm,congrArg (fun a:Nat=>some (AV.o (.c (.val (.int .i64 (a:Int)))))) hjm.symm,trivial⟩,?_⟩
      ·show (j.l1.drop j.I.m).take s.ord++j.l1.drop s.ord=_
       rw [hjm]
      ·show some _=some (AV.ren _ (.o (.c (.sli b 1 (io+j.I.d+m) (N - (j.I.d+j.I.m)) (j.c' - m)))))
       rw [hnd]
       exact hrb _ _ _
      show N - (j.I.d+j.I.m)<N - j.I.d
      omega
     have g:N - j.I.d - m=0:=by
      have:=of_decide_eq_false g
      omega
     have hfi:=(j.I.next (by omega) hb0).fin (by show xs.length≤j.I.d+j.I.m; omega)
     change batD kd at_ s.bs s.inv z (F.take s.ord) xs=_ at hfi
     rw [hna] at hfi
     conv=>whnf
     refine ⟨⟨(j.I.e.2,((j.I.fir++j.I.e.1).drop (j.I.m*1)).take j.I.fir.length,j.l1,m,j.I.acc++firL at_ 6 s.inv (m*1*65536) j.l1),hfi,hl1,by show m≤s.bs; omega,?_⟩,[0,1,2,3,4,5],⟨rfl,embDD _ _ F G D s L Ni No _ rfl rfl rfl,rfl⟩,rfl,rfl,rfl,trivial⟩
     show (j.l1.drop m).take s.ord=((j.I.fir++j.I.e.1).drop (j.I.m*1)).take j.I.fir.length
     rw [hfir,hjm]
    conv=>whnf
    refine ⟨fun g => ?_,fun g => ?_⟩
    ·exact absurd (of_decide_eq_true g) (by omega)
    have g:N - j.I.d - m=0:=by
     have:=of_decide_eq_false g
     omega
    have hfi:=(j.I.next (by omega) hb0).fin (by show xs.length≤j.I.d+j.I.m; omega)
    change batD kd at_ s.bs s.inv z (F.take s.ord) xs=_ at hfi
    rw [hna] at hfi
    conv=>whnf
    refine ⟨⟨(j.I.e.2,((j.I.fir++j.I.e.1).drop (j.I.m*1)).take j.I.fir.length,j.l1,m,j.I.acc++firL at_ 6 s.inv (m*1*65536) j.l1),hfi,hl1,by show m≤s.bs; omega,?_⟩,[0,1,2,3,4,5],⟨rfl,embDD _ _ F G D s L Ni No _ rfl rfl rfl,rfl⟩,rfl,rfl,rfl,trivial⟩
    show (j.l1.drop m).take s.ord=((j.I.fir++j.I.e.1).drop (j.I.m*1)).take j.I.fir.length
    rw [hfir,hjm]
   have h3:N - j.I.d=0:=by have:=of_decide_eq_false h3; omega
   have hfi:=j.I.fin (by omega)
   conv=>whnf
   exact ⟨⟨(j.I.z,j.I.fir,j.l,j.k,j.I.acc),hfi,j.hl,(j.hk h3).1,(j.hk h3).2⟩,[0,1,2,3,4,5],⟨rfl,embDD _ _ F G D s L Ni No _ rfl rfl rfl,rfl⟩,rfl,rfl,rfl,trivial⟩
  obtain ⟨⟨zf,ff,l,k,acc⟩,hfi,hl,hk,hdr⟩:=p
  change batD kd at_ s.bs s.inv z (F.take s.ord) xs=(acc,zf,ff) at hfi
  change l.length=s.bs+36 at hl
  change k≤s.bs at hk
  change (l.drop k).take s.ord=ff at hdr
  dsimp -iota only
  conv=>whnf
  refine dropF_get (tlC_get hF hG hD (i:=3) rfl) ?_
  conv=>whnf
  rw [hO]
  refine ⟨⟨by omega,by omega,by omega⟩,?_⟩
  conv=>whnf
  refine ⟨fun _=>?_,fun h1 h2=>absurd h1 (by omega)⟩
  conv=>whnf
  refine ⟨⟨⟨by omega,by omega⟩,by decide⟩,?_⟩
  conv=>whnf
  refine ⟨trivial,?_⟩
  conv=>whnf
  refine ⟨by show (6+(s.ord:Int).toNat)*1≤(tlC F G D _).length+6; rw [tlC_length hF hG hD]; omega,?_⟩
  conv=>whnf
  have hfl:ff.length=s.ord:=by rw [← hdr,List.length_take,List.length_drop,hl]; omega
  refine ⟨Int,encI .i32,[],ff,fun _=>rfl,⟨rfl,rfl,by rw [hl]; omega,by rw [hfl]; omega,by rw [show min ((((s.bs+36:Nat):Int)).toNat - ((k:Int)).toNat) (((s.ord:Int)).toNat)=s.ord by omega,show 0+((k:Int)).toNat=k by omega,hdr]⟩,?_⟩
  rw [put_F (F':=ff) hF hG hD (by omega) rfl rfl (by show 6*1+ff.length*1=6+ff.length; omega)]
  conv=>whnf
  refine ⟨trivial,?_⟩
  conv=>whnf
  refine Or.inl ⟨rfl,l,hl,?_⟩
  rw [hfi,hfl]
 | some l0 =>
  have hl0:l0.length=s.bs+36:=hii l0 rfl
  refine callsA_of_ev c26_ ?_
  conv=>whnf
  refine Or.inr ⟨{l:List Int // l.length=s.bs+36},fun ⟨l,_⟩=>ddSt0 b io N c oo on oc s.bs L Ni No F G D xs ys out co (zA z) s l,?_,fun ⟨l,hl⟩ => ?_⟩
  ·conv=>whnf
   refine dropF_get (tlC_get hF hG hD (i:=12) rfl) ?_
   conv=>whnf
   refine dropF_get (tlC_get hF hG hD (i:=1) rfl) ?_
   conv=>whnf
   rw [hB2]
   refine ⟨fun g => ?_,fun g => ?_⟩
   ·exact absurd (of_decide_eq_true g) (by omega)
   conv=>whnf
   refine ⟨⟨l0,hl0⟩,[0,1,2,3,4,5],⟨rfl,?_,rfl⟩,rfl,rfl,hrb _ _ _,trivial⟩
   show embH _ [zB (zA z) (tlC F G D (scD s 3 2 1 L Ni No (.sli 5 1 0 l0.length l0.length))),sB out,sB ys,kB co,.dead,bB l0] _ _
   rw [hl0]
   exact embDD _ _ F G D s L Ni No (s.bs+36) rfl rfl rfl
  conv=>whnf
  refine dropF_get (tlC_get hF hG hD (i:=12) rfl) ?_
  conv=>whnf
  refine dropF_get (tlC_get hF hG hD (i:=1) rfl) ?_
  conv=>whnf
  rw [hB2]
  refine ⟨⟨by omega,by omega,by omega⟩,?_⟩
  conv=>whnf
  refine ⟨fun _=>?_,fun h1 h2=>absurd h1 (by omega)⟩
  conv=>whnf
  refine ⟨trivial,?_⟩
  conv=>whnf
  dsimp -iota only
  refine ⟨by omega,0,rfl,?_⟩
  conv=>whnf
  rw [clr_eq (n:=s.bs+36) (by omega) (by omega) (by omega)]
  refine dropF_get (tlC_get hF hG hD (i:=3) rfl) ?_
  conv=>whnf
  rw [hO]
  refine ⟨⟨⟨by omega,by omega⟩,by decide⟩,?_⟩
  conv=>whnf
  refine ⟨trivial,?_⟩
  conv=>whnf
  refine ⟨by rw [List.length_replicate]; omega,?_⟩
  conv=>whnf
  refine ⟨F.take s.ord,src_F hF hG hD hw (by omega),?_⟩
  conv=>whnf
  have hFl:(F.take s.ord).length=s.ord:=by rw [List.length_take]; omega
  rw [put_eq (by omega) (by omega),show F.take s.ord++(List.replicate (s.bs+36) 0).drop (F.take s.ord).length=F.take s.ord++List.replicate (s.bs+36 - s.ord) 0 from by rw [hFl,List.drop_replicate]]
  refine ⟨trivial,?_⟩
  conv=>whnf
  refine dropF_get (tlC_get hF hG hD (i:=8) rfl) ?_
  conv=>whnf
  refine ⟨⟨by omega,by omega,by omega⟩,Or.inl ⟨fun cc hcc1 hcc2 => ?_,fun h=>absurd h (by omega),fun h=>absurd h (by omega)⟩⟩
  conv=>whnf
  dsimp -iota only
  refine Or.inr ⟨{p:(Int × Int) × List Int × List Int × Nat × List Int // batD kd at_ s.bs s.inv z (F.take s.ord) xs=(p.2.2.2.2,p.1,p.2.1)∧p.2.2.1.length=s.bs+36∧p.2.2.2.1≤s.bs∧(p.2.2.1.drop p.2.2.2.1).take s.ord=p.2.1},fun p=>ddSt2 s.bs L Ni No F G D ys (wr out oo p.1.2.2.2.2) co s p.1.1 p.1.2.2.1 p.1.2.2.2.1,?_,fun p => ?_⟩
  ·refine ⟨DDx kd at_ s.ord s.bs s.inv io N c q z (F.take s.ord) xs,fun j=>ddSt1 b io N c oo on oc L cc Ni No F G D ys out co s j,fun j=>N - j.I.d,⟨dd0 hF hw hN hc hFS hz hq,[0,1,2,3,4,5],⟨rfl,embDD _ _ F G D s L Ni No _ rfl (wr_nil out oo) rfl,rfl⟩,rfl,rfl,hrb _ _ _,rfl,rfl,rfl,rfl,trivial⟩,fun j => ?_⟩
   conv=>whnf
   refine ⟨fun h3 => ?_,fun h3 => ?_⟩
   ·have hjd:j.I.d<N:=by have:=of_decide_eq_true h3; omega
    obtain ⟨hjo,hjc⟩:=j.ho
    have hjo:=hjo hjd
    obtain ⟨m,hm⟩:∃ m,m=min (N - j.I.d) s.bs:=⟨_,rfl⟩
    have hjm:j.I.m=m:=by unfold IBat.m; rw [hN]; exact hm.symm
    have hin2:InOk b (io+j.I.d) ((xs.drop j.I.d).take m) D ys:=hin.cut _ _
    have hlen2:((xs.drop j.I.d).take m).length=m:=by rw [List.length_take,List.length_drop,hN]; omega
    have hx2:∀ x∈(xs.drop j.I.d).take m,S16 x:=fun x hx'=>hx x (List.mem_of_mem_drop (List.mem_of_mem_take hx'))
    have he:arRun kd j.I.z ((xs.drop j.I.d).take m)=j.I.e:=by unfold IBat.e; rw [hjm]
    conv=>whnf
    refine dropF_get (tlC_get hF hG hD (i:=1) rfl) ?_
    conv=>whnf
    rw [mn_eq,show min (N - j.I.d) ((scD s 3 2 1 L Ni No (.sli 5 1 0 (s.bs+36) (s.bs+36))).bs)=m from hm.symm]
    rw [hjo]
    refine Or.inr ⟨Unit,fun _=>⟨[(0,.o (.c (.ptr 0 0))),(1,.o (.c (.sli 1 1 oo on oc))),(2,.o (.c (.sli b 1 (io+j.I.d) (N - j.I.d) j.c'))),(6,.o (.c (.sli 5 1 0 (s.bs+36) (s.bs+36)))),(7,.o (.c (.sli 3 1 2 (L - 2) (cc - 2)))),(8,.o (.c (.val (.int .i64 j.I.acc.length)))),(9,.o (.c (.val (.int .i64 m))))],
     [zB (zA j.I.e.2) (tlC F G D (scD s 3 2 1 L Ni No (.sli 5 1 0 (s.bs+36) (s.bs+36)))),sB (wr out oo j.I.acc),sB ys,kB co,.dead,bB j.l1]⟩,?_,fun _=>?_⟩
    ·conv=>whnf
     refine dropF_get (tlC_get hF hG hD (i:=3) rfl) ?_
     conv=>whnf
     rw [hO]
     refine ⟨⟨by omega,by omega,by omega⟩,?_⟩
     conv=>whnf
     refine ⟨fun _=>?_,fun h1 h2=>absurd h1 (by omega)⟩
     conv=>whnf
     refine dropF_get (tlC_get hF hG hD (i:=8) rfl) ?_
     conv=>whnf
     refine ⟨?_,?_⟩
     ·conv=>whnf
      refine ⟨⟨by decide,by decide⟩,?_⟩
      conv=>whnf
      refine Or.inl ?_
      conv=>whnf
      refine ⟨⟨dropF_get (tlC_get hF hG hD (i:=8) rfl) ⟨rfl,rfl⟩,dropF_get (tlC_get hF hG hD (i:=3) rfl) ⟨rfl,rfl⟩,trivial⟩,?_⟩
      conv=>whnf
      refine ⟨⟨by omega,by omega,by omega⟩,?_⟩
      conv=>whnf
      refine ⟨fun _=>?_,fun h1 h2=>absurd h2 (by omega)⟩
      conv=>whnf
      refine ⟨⟨dropF_get (tlC_get hF hG hD (i:=8) rfl) ⟨rfl,rfl⟩,dropF_get (tlC_get hF hG hD (i:=3) rfl) ⟨rfl,rfl⟩,trivial⟩,?_⟩
      conv=>whnf
      dsimp -iota only
      refine CallsA.liftKE (H0:=[zB (zA j.I.z) (tlC F G D (scD s 3 2 4 L Ni No (.sli 1 1 0 (s.bs+36) (s.bs+36)))),bB j.l,sB ys,kB co,.dead,.dead]) [0,5,2,3,1,4]
       [zB (zA j.I.z) (tlC F G D (scD s 3 2 1 L Ni No (.sli 5 1 0 (s.bs+36) (s.bs+36)))),.dead,sB ys,kB co,.dead,bB j.l] ⟨rfl,rfl,rfl,rfl,trivial⟩ rfl
       ⟨congrArg some (zB_ren [0,5,2,3,1,4] (zA j.I.z) F G D (scD s 3 2 4 L Ni No (.sli 1 1 0 (s.bs+36) (s.bs+36)))).symm,rfl,rfl,rfl,rfl,rfl,rfl,rfl,(by decide:1<6),(by decide:4<6),trivial⟩
       (by rcases hin2.b with rfl | rfl <;> rfl)
       (ar2W w0 (oo:=0+s.ord) (on:=s.bs+36 - s.ord) (oc:=s.bs+36 - s.ord) (L:=L) hin2.b (hin2.rd hF hG hD _) hlen2 hx2 j.hz hc0 hc1 (by omega) (tlC_nat rfl) (by omega) (by rw [j.hl]; omega) (by omega)) ?_
      rintro _ _ ⟨rfl,rfl⟩
      rw [he]
      refine ⟨.t [],[zB (zA j.I.e.2) (tlC F G D (scD s 3 2 1 L Ni No (.sli 5 1 0 (s.bs+36) (s.bs+36)))),sB (wr out oo j.I.acc),sB ys,kB co,.dead,bB j.l1],rfl,⟨zB_ren _ _ _ _ _ _,rfl,rfl,rfl,rfl,congrArg bB (by unfold DDx.l1; rw [Nat.zero_add]),trivial⟩,?_⟩
      conv=>whnf
      refine ⟨trivial,?_⟩
      conv=>whnf
      exact ⟨(),[0,1,2,3,4,5],⟨rfl,embDD _ _ F G D s L Ni No _ rfl rfl rfl,rfl⟩,rfl,rfl,hrb _ _ _,rfl,rfl,rfl,rfl,trivial⟩
     conv=>whnf
     refine ⟨⟨by omega,by omega,by omega⟩,?_⟩
     conv=>whnf
     refine ⟨fun _=>?_,fun h1 h2=>absurd h2 (by omega)⟩
     conv=>whnf
     refine ⟨⟨dropF_get (tlC_get hF hG hD (i:=8) rfl) ⟨rfl,rfl⟩,dropF_get (tlC_get hF hG hD (i:=3) rfl) ⟨rfl,rfl⟩,trivial⟩,?_⟩
     conv=>whnf
     refine ⟨⟨by decide,by decide⟩,?_⟩
     conv=>whnf
     refine Or.inl ?_
     conv=>whnf
     refine ⟨⟨dropF_get (tlC_get hF hG hD (i:=8) rfl) ⟨rfl,rfl⟩,dropF_get (tlC_get hF hG hD (i:=3) rfl) ⟨rfl,rfl⟩,trivial⟩,?_⟩
     conv=>whnf
     dsimp -iota only
     refine CallsA.liftKE (H0:=[zB (zA j.I.z) (tlC F G D (scD s 3 2 4 L Ni No (.sli 1 1 0 (s.bs+36) (s.bs+36)))),bB j.l,sB ys,kB co,.dead,.dead]) [0,5,2,3,1,4]
      [zB (zA j.I.z) (tlC F G D (scD s 3 2 1 L Ni No (.sli 5 1 0 (s.bs+36) (s.bs+36)))),.dead,sB ys,kB co,.dead,bB j.l] ⟨rfl,rfl,rfl,rfl,trivial⟩ rfl
      ⟨congrArg some (zB_ren [0,5,2,3,1,4] (zA j.I.z) F G D (scD s 3 2 4 L Ni No (.sli 1 1 0 (s.bs+36) (s.bs+36)))).symm,rfl,rfl,rfl,rfl,rfl,rfl,rfl,(by decide:1<6),(by decide:4<6),trivial⟩
      (by rcases hin2.b with rfl | rfl <;> rfl)
      (ar2W w0 (oo:=0+s.ord) (on:=s.bs+36 - s.ord) (oc:=s.bs+36 - s.ord) (L:=L) hin2.b (hin2.rd hF hG hD _) hlen2 hx2 j.hz hc0 hc1 (by omega) (tlC_nat rfl) (by omega) (by rw [j.hl]; omega) (by omega)) ?_
     rintro _ _ ⟨rfl,rfl⟩
     rw [he]
     refine ⟨.t [],[zB (zA j.I.e.2) (tlC F G D (scD s 3 2 1 L Ni No (.sli 5 1 0 (s.bs+36) (s.bs+36)))),sB (wr out oo j.I.acc),sB ys,kB co,.dead,bB j.l1],rfl,⟨zB_ren _ _ _ _ _ _,rfl,rfl,rfl,rfl,congrArg bB (by unfold DDx.l1; rw [Nat.zero_add]),trivial⟩,?_⟩
     conv=>whnf
     refine ⟨trivial,?_⟩
     conv=>whnf
     exact ⟨(),[0,1,2,3,4,5],⟨rfl,embDD _ _ F G D s L Ni No _ rfl rfl rfl,rfl⟩,rfl,rfl,hrb _ _ _,rfl,rfl,rfl,rfl,trivial⟩
    have hl1:=j.l1len hN hjd hw
    have hl1S:=j.l1S hN hjd hw hx
    have hfl:=j.firl hN hjd hw hat
    have hfir:=j.fir' hN hjd hw
    have hnle:=(j.I.next (by omega) hb0).le
    have hna:(j.I.next (by omega) hb0).acc=j.I.acc++firL at_ 6 s.inv (j.I.m*1*65536) (j.I.fir++j.I.e.1):=rfl
    rw [← hfl] at hna
    rw [hna,List.length_append,firL_length] at hnle
    change _≤(batD kd at_ s.bs s.inv z (F.take s.ord) xs).1.length at hnle
    rw [hjm] at hna hnle hfir
    have hm0:0<m:=by omega
    have hcnt:0<cntI (m*1*65536) s.inv:=by rw [cntI_lt hR]; omega
    have hwl:(wr out oo j.I.acc).length=out.length:=wr_length _ _ _ (by omega)
    conv=>whnf
    rw [shl16 (by omega)]
    refine ⟨⟨by omega,by omega,by omega⟩,?_⟩
    conv=>whnf
    refine ⟨fun _=>?_,fun h1 h2=>absurd h2 (by omega)⟩
    conv=>whnf
    refine dropF_get (tlC_get hF hG hD (i:=2) rfl) ?_
    conv=>whnf
    rw [hI]
    dsimp -iota only
    refine CallsA.liftKE (H0:=[zB (zA j.I.e.2) (tlC F G D (scD s 3 4 1 L Ni No (.sli 2 1 0 (s.bs+36) (s.bs+36)))),sB (wr out oo j.I.acc),bB j.l1,kB co,.dead,.dead]) [0,1,5,3,2,4]
     [zB (zA j.I.e.2) (tlC F G D (scD s 3 2 1 L Ni No (.sli 5 1 0 (s.bs+36) (s.bs+36)))),sB (wr out oo j.I.acc),.dead,kB co,.dead,bB j.l1] ⟨rfl,rfl,rfl,rfl,trivial⟩ rfl
     ⟨congrArg some (zB_ren [0,1,5,3,2,4] (zA j.I.e.2) F G D (scD s 3 4 1 L Ni No (.sli 2 1 0 (s.bs+36) (s.bs+36)))).symm,rfl,rfl,rfl,rfl,rfl,rfl,rfl,(by decide:2<6),(by decide:4<6),trivial⟩ rfl
     (hdn cc (oo+j.I.acc.length) (on - j.I.acc.length) (oc - j.I.acc.length) (s.bs+36) (m*1*65536) (zA j.I.e.2) _ (wr out oo j.I.acc) j.l1 (tlC_get hF hG hD (i:=3) rfl) (tlC_get hF hG hD (i:=4) rfl) (by omega) (by omega) (by omega) hl1S (tlC_nat rfl) (by omega) (by omega) (by omega)) ?_
    rintro _ _ ⟨rfl,rfl⟩
    refine ⟨.o (.c (.val (.int .i64 (cntI (m*1*65536) s.inv)))),[zB (zA j.I.e.2) (tlC F G D (scD s 3 2 1 L Ni No (.sli 5 1 0 (s.bs+36) (s.bs+36)))),sB (wr out oo (j.I.acc++firL at_ 6 s.inv (m*1*65536) j.l1)),sB ys,kB co,.dead,bB j.l1],rfl,⟨zB_ren _ _ _ _ _ _,congrArg sB (wr_wr _ _ _ _ _ rfl (by omega)),rfl,rfl,rfl,rfl,trivial⟩,?_⟩
    conv=>whnf
    refine ⟨trivial,?_⟩
    conv=>whnf
    dsimp -iota only
    have h7:IntKind.i64.wrap ((j.I.acc.length:Int)+((cntI (m*1*65536) s.inv:Nat):Int))=(((j.I.acc++firL at_ 6 s.inv (m*1*65536) j.l1).length:Nat):Int):=by
     rw [wi64 (by omega),List.length_append,firL_length]
     omega
    rw [h7]
    have hnd:N - (j.I.d+j.I.m)=N - j.I.d - m:=by rw [hjm]; omega
    have hdv:N - j.I.d - m≠1:=by
     intro h1
     have hb3:m=s.bs:=by omega
     have h4:q∣N - j.I.d - s.bs:=Nat.dvd_sub j.hq hqb
     have h5:N - j.I.d - s.bs=1:=by omega
     rw [h5] at h4
     have:=Nat.le_of_dvd (by omega) h4
     omega
    refine ⟨⟨by omega,by omega,by omega⟩,?_⟩
    conv=>whnf
    refine ⟨fun hc1' => ?_,fun hc1' hc2' => ?_⟩
    ·have hnx:(j.I.d+j.I.m<N→io+j.I.d+m=io+(j.I.d+j.I.m))∧N - (j.I.d+j.I.m)≤j.c' - m:=by rw [hjm]; omega
     conv=>whnf
     refine ⟨fun g => ?_,fun g => ?_⟩
     ·have g:1<N - j.I.d - m:=by have:=of_decide_eq_true g; omega
      conv=>whnf
      refine dropF_get (tlC_get hF hG hD (i:=3) rfl) ?_
      conv=>whnf
      rw [hO]
      refine ⟨⟨by omega,by omega,by omega⟩,?_⟩
      conv=>whnf
      refine ⟨fun _=>?_,fun h1 h2=>absurd h1 (by omega)⟩
      conv=>whnf
      refine ⟨⟨by omega,by omega,by omega⟩,?_⟩
      conv=>whnf
      refine ⟨fun _=>?_,fun h1 h2=>absurd h1 (by omega)⟩
      conv=>whnf
      refine ⟨trivial,?_⟩
      conv=>whnf
      refine ⟨by rw [hl1]; omega,?_⟩
      conv=>whnf
      have hl8:((j.l1.drop m).take s.ord).length=s.ord:=by rw [List.length_take,List.length_drop,hl1]; omega
      refine ⟨(j.l1.drop m).take s.ord,⟨rfl,rfl,by rw [hl1]; omega,by rw [hl8]; omega,by rw [show min ((((s.bs+36:Nat):Int)).toNat - ((m:Int)).toNat) (((s.ord:Int)).toNat - Int.toNat 0)=s.ord by omega,show 0+((m:Int)).toNat=m by omega]⟩,?_⟩
      rw [put_eq (by omega) (by omega),hl8]
      conv=>whnf
      refine ⟨trivial,?_⟩
      conv=>whnf
      refine ⟨j.next hN hjd hb0 hw (io+j.I.d+m) (j.c' - m) hnx hx (by omega) hqb,⟨[0,1,2,3,4,5],⟨rfl,embDD _ _ F G D s L Ni No _ rfl (congrArg (wr out oo) hna) ?_,rfl⟩,rfl,rfl,?_,rfl,rfl,congrArg (fun a:List Int=>some (AV.o (.c (.val (.int .i64 ((a.length:Nat):Int)))))) hna.symm,congrArg (fun a:Nat=>some (AV.o (.c (.val (.int .i64 (a:Int)))))) hjm.symm,trivial⟩,?_⟩
      ·show (j.l1.drop j.I.m).take s.ord++j.l1.drop s.ord=_
       rw [hjm]
      ·show some _=some (AV.ren _ (.o (.c (.sli b 1 (io+j.I.d+m) (N - (j.I.d+j.I.m)) (j.c' - m)))))
       rw [hnd]
       exact hrb _ _ _
      show N - (j.I.d+j.I.m)<N - j.I.d
      omega
     have g:N - j.I.d - m=0:=by
      have:=of_decide_eq_false g
      omega
     have hfi:=(j.I.next (by omega) hb0).fin (by show xs.length≤j.I.d+j.I.m; omega)
     change batD kd at_ s.bs s.inv z (F.take s.ord) xs=_ at hfi
     rw [hna] at hfi
     conv=>whnf
     refine ⟨⟨(j.I.e.2,((j.I.fir++j.I.e.1).drop (j.I.m*1)).take j.I.fir.length,j.l1,m,j.I.acc++firL at_ 6 s.inv (m*1*65536) j.l1),hfi,hl1,by show m≤s.bs; omega,?_⟩,[0,1,2,3,4,5],⟨rfl,embDD _ _ F G D s L Ni No _ rfl rfl rfl,rfl⟩,rfl,rfl,rfl,trivial⟩
     show (j.l1.drop m).take s.ord=((j.I.fir++j.I.e.1).drop (j.I.m*1)).take j.I.fir.length
     rw [hfir,hjm]
    conv=>whnf
    refine ⟨fun g => ?_,fun g => ?_⟩
    ·exact absurd (of_decide_eq_true g) (by omega)
    have g:N - j.I.d - m=0:=by
     have:=of_decide_eq_false g
     omega
    have hfi:=(j.I.next (by omega) hb0).fin (by show xs.length≤j.I.d+j.I.m; omega)
    change batD kd at_ s.bs s.inv z (F.take s.ord) xs=_ at hfi
    rw [hna] at hfi
    conv=>whnf
    refine ⟨⟨(j.I.e.2,((j.I.fir++j.I.e.1).drop (j.I.m*1)).take j.I.fir.length,j.l1,m,j.I.acc++firL at_ 6 s.inv (m*1*65536) j.l1),hfi,hl1,by show m≤s.bs; omega,?_⟩,[0,1,2,3,4,5],⟨rfl,embDD _ _ F G D s L Ni No _ rfl rfl rfl,rfl⟩,rfl,rfl,rfl,trivial⟩
    show (j.l1.drop m).take s.ord=((j.I.fir++j.I.e.1).drop (j.I.m*1)).take j.I.fir.length
    rw [hfir,hjm]
   have h3:N - j.I.d=0:=by have:=of_decide_eq_false h3; omega
   have hfi:=j.I.fin (by omega)
   conv=>whnf
   exact ⟨⟨(j.I.z,j.I.fir,j.l,j.k,j.I.acc),hfi,j.hl,(j.hk h3).1,(j.hk h3).2⟩,[0,1,2,3,4,5],⟨rfl,embDD _ _ F G D s L Ni No _ rfl rfl rfl,rfl⟩,rfl,rfl,rfl,trivial⟩
  obtain ⟨⟨zf,ff,l,k,acc⟩,hfi,hl,hk,hdr⟩:=p
  change batD kd at_ s.bs s.inv z (F.take s.ord) xs=(acc,zf,ff) at hfi
  change l.length=s.bs+36 at hl
  change k≤s.bs at hk
  change (l.drop k).take s.ord=ff at hdr
  dsimp -iota only
  conv=>whnf
  refine dropF_get (tlC_get hF hG hD (i:=3) rfl) ?_
  conv=>whnf
  rw [hO]
  refine ⟨⟨by omega,by omega,by omega⟩,?_⟩
  conv=>whnf
  refine ⟨fun _=>?_,fun h1 h2=>absurd h1 (by omega)⟩
  conv=>whnf
  refine ⟨⟨⟨by omega,by omega⟩,by decide⟩,?_⟩
  conv=>whnf
  refine ⟨trivial,?_⟩
  conv=>whnf
  refine ⟨by show (6+(s.ord:Int).toNat)*1≤(tlC F G D _).length+6; rw [tlC_length hF hG hD]; omega,?_⟩
  conv=>whnf
  have hfl:ff.length=s.ord:=by rw [← hdr,List.length_take,List.length_drop,hl]; omega
  refine ⟨Int,encI .i32,[],ff,fun _=>rfl,⟨rfl,rfl,by rw [hl]; omega,by rw [hfl]; omega,by rw [show min ((((s.bs+36:Nat):Int)).toNat - ((k:Int)).toNat) (((s.ord:Int)).toNat)=s.ord by omega,show 0+((k:Int)).toNat=k by omega,hdr]⟩,?_⟩
  rw [put_F (F':=ff) hF hG hD (by omega) rfl rfl (by show 6*1+ff.length*1=6+ff.length; omega)]
  conv=>whnf
  refine ⟨trivial,?_⟩
  conv=>whnf
  refine Or.inl ⟨rfl,l,hl,?_⟩
  rw [hfi,hfl]
theorem dnOk18 (w0:World) {parts R:Nat} {co:List Int} (hp:parts=2∨parts=3) (hR:0<R) (hcl:co.length=2+9*parts) (hco:∀ x∈co,S16 x):DnOk w0 18 parts (2+9*parts) R (at18 parts co) co:=by
 intro cc oo on oc BL lim z tl out buf hord hfr hcc hlr hBL hbuf htl hq hon hoo
 have e1:2+9*parts - 2=9*parts:=by omega
 rw [e1]
 exact downInt18W w0 (BC:=BL) hord hfr hp rfl hq (by omega) (by omega) hR hlr hBL (Nat.le_refl _) hbuf hco htl hon hoo
theorem dnOk24 (w0:World) {R:Nat} {co:List Int} (hR:0<R) (hcl:co.length=14) (hco:∀ x∈co,S16 x):DnOk w0 24 1 14 R (at24 co) co:=by
 intro cc oo on oc BL lim z tl out buf hord _ hcc hlr hBL hbuf htl hq hon hoo
 exact downInt24W w0 (BC:=BL) hord rfl hq (by omega) (by omega) hR hlr hBL (Nat.le_refl _) hbuf hco htl hon hoo
structure Sr where
 from_:Nat
 to_:Nat
 dl:Nat
 ratio:Nat
 hn:Nat
 fn:Nat
def rB (z:Z6) (s:Sr):Blk := .cells 38 [ci .i64 s.from_,ci .i64 s.to_,ci .i64 s.dl,.vec 1 s.hn,ci .i64 z.a,ci .i64 z.b,ci .i64 z.c,ci .i64 z.d,ci .i64 z.e,ci .i64 z.f,.vec 2 s.fn,ci .i64 s.ratio]
def nB (l:List Int):Blk := .vec true 3 (encI .i64) [] 1 l
def tapB:Blk := .cells 36 [ci .i64 ((1746:Nat):Int),ci .i64 ((14986:Nat):Int),ci .i64 (-26453),ci .i64 ((6854:Nat):Int),ci .i64 ((25769:Nat):Int),ci .i64 (-9994)]
def InR (w0:World) (iv:CV) (ys xs:List Int):Prop:=(∃ o c,iv = .sli 1 1 o xs.length c ∧ ∀ k x,xs[k]? = some x→ys[o+k]? = some x)∨(∃ (a:Addr) (c:Nat),iv = .val (.slice (some a) xs.length c) ∧ ∀ k x,xs[k]? = some x→w0.cell? ((a.add (k*1)).add 0)=some (.int .i16 x))∨(∃ c,iv = .val (.slice none 0 c)∧xs=[])
theorem stage64 {t C A Z B:Int} {last:Bool} {z a:Int} (hS:S16 t) (ht:C=if last then t+65536 else t) (h0:0≤C) (h1:C≤65536) (ha:iB A a) (hz:iB Z z)
 (hZ:(65536+C)*A+C*Z+65536≤65536*Z) (hB:(65536 - C)*Z+C*A+65536≤65536*B) (hI:A+Z≤1073741823) (hB2:B≤2147483647) :
 ∃ y m,IntKind.i64.wrap (a - z)=y∧iB 1099511627776 y∧wb y t=m∧(last=true→IntKind.i64.wrap (m+y)=m+y) ∧
  IntKind.i64.wrap (z+(if last then m+y else m))=(stg t last z a).1∧IntKind.i64.wrap (a+(if last then m+y else m))=(stg t last z a).2:=by
 have hs:=stg_ok ht h0 h1 ha hz hZ hB
 unfold iB at ha hz
 have hw:=wb_bd (a:=a - z) (b:=t) (A:=1073741823) (by unfold iB; omega) hS
 unfold iB at hw
 refine ⟨a - z,wb (a - z) t,wi64 (by omega),by unfold iB; omega,rfl,fun _=>wi64 (by omega),?_,?_⟩
 ·have:=hs.1
  unfold stg at this ⊢
  exact wi64 (by simp only at this; omega)
 have:=hs.2
 unfold stg at this ⊢
 exact wi64 (by simp only at this; omega)
theorem stage64F {t A Z B:Int} {z a:Int} (h0:0≤t) (h1:t≤32767) (ha:iB A a) (hz:iB Z z)
 (hZ:(65536+t)*A+t*Z+65536≤65536*Z) (hB:(65536 - t)*Z+t*A+65536≤65536*B) (hI:A+Z≤1073741823) (hB2:B≤2147483647) :
 ∃ y m,IntKind.i64.wrap (a - z)=y∧iB 1099511627776 y∧wb y t=m∧IntKind.i64.wrap (z+m)=(stg t false z a).1∧IntKind.i64.wrap (a+m)=(stg t false z a).2:=by
 have:=stage64 (t:=t) (C:=t) (last:=false) (by unfold S16; omega) rfl h0 (by omega) ha hz hZ hB hI hB2
 obtain ⟨y,m,e1,e2,e3,_,e5,e6⟩:=this
 exact ⟨y,m,e1,e2,e3,by simpa using e5,by simpa using e6⟩
theorem stage64T {t C A Z B:Int} {z a:Int} (hS:S16 t) (ht:C=t+65536) (h0:0≤C) (h1:C≤65536) (ha:iB A a) (hz:iB Z z)
 (hZ:(65536+C)*A+C*Z+65536≤65536*Z) (hB:(65536 - C)*Z+C*A+65536≤65536*B) (hI:A+Z≤1073741823) (hB2:B≤2147483647) :
 ∃ y m m',IntKind.i64.wrap (a - z)=y∧iB 1099511627776 y∧wb y t=m∧IntKind.i64.wrap (m+y)=m'∧IntKind.i64.wrap (z+m')=(stg t true z a).1∧IntKind.i64.wrap (a+m')=(stg t true z a).2:=by
 obtain ⟨y,m,e1,e2,e3,e4,e5,e6⟩:=stage64 (last:=true) hS ht h0 h1 ha hz hZ hB hI hB2
 exact ⟨y,m,m+y,e1,e2,e3,e4 rfl,by simpa using e5,by simpa using e6⟩
def outV (id n:Nat):CV:=match n with
 | 0=>nilC
 | n+1 => .vec id (n+1)
def outB (l:List Int):List Blk:=match l with
 | []=>[]
 | x::r=>[nB (x::r)]
def duSt (iv:CV) (n:Nat) (ys:List Int) (s:Sr) (z:Z6) (o:List Int) (k:Nat):S :=
 ⟨[(0,.o (.c (.ptr 0 0))),(5,.o (.c (.ptr 3 0))),(6,.o (.c (outV 4 o.length))),(19,.o (.c iv)),(20,.o (.c (.val (.int .i64 n)))),(21,.o (.c (.val (.int .i64 k))))],[rB z s,sB ys,.dead,tapB]++outB o⟩
def duH (iv:CV) (n k:Nat) (X:Int) (ys:List Int) (s:Sr) (Z:Z6) (ov:CV) (ob:List Blk) (h:Nat):S :=
 ⟨[(0,.o (.c (.ptr 0 0))),(5,.o (.c (.ptr 3 0))),(6,.o (.c ov)),(9,.o (.c (.val (.int .i64 X)))),(19,.o (.c iv)),(20,.o (.c (.val (.int .i64 n)))),(21,.o (.c (.val (.int .i64 k)))),(28,.o (.c (.val (.int .i64 h))))],rB Z s::sB ys :: .dead::tapB::ob⟩
def duJ (iv:CV) (n k:Nat) (X:Int) (ys:List Int) (s:Sr) (Z:Z6) (ov:CV) (ob:List Blk) (h:Nat) (a:Int) (j:Nat):S :=
 ⟨[(0,.o (.c (.ptr 0 0))),(5,.o (.c (.ptr 3 0))),(6,.o (.c ov)),(9,.o (.c (.val (.int .i64 X)))),(10,.o (.c (.val (.int .i64 h)))),(11,.o (.c (.sli 3 1 (3*h) (6 - 3*h) (6 - 3*h)))),(12,.o (.c (.sli 0 1 (4+3*h) (6 - 3*h) (6 - 3*h)))),(13,.o (.c (.val (.int .i64 a)))),
  (19,.o (.c iv)),(20,.o (.c (.val (.int .i64 n)))),(21,.o (.c (.val (.int .i64 k)))),(28,.o (.c (.val (.int .i64 h)))),(41,.o (.c (.val (.int .i64 j))))],rB Z s::sB ys :: .dead::tapB::ob⟩
def pick3 (a b c:S) (j:Nat):S:=match j with
 | 0=>a
 | 1=>b
 | _=>c
def pick4 (a b c d:S) (j:Nat):S:=match j with
 | 0=>a
 | 1=>b
 | 2=>c
 | _=>d
theorem sM (w0:World) {a b:Int} (ha:iB 1099511627776 a) (hb:S16 b):CallsA Tryz.prog w0 62 [.c (.val (.int .i64 a)),.c (.val (.int .i64 b))] [] fun r H=>r = .o (.c (.val (.int .i64 (wb a b))))∧H=[]:=sMulWBW w0 ha hb
theorem rnd_bd {a B:Int} (h:iB B a) (hB:B≤2147483647:=by omega):-9223372036854775808≤rnd a 10∧rnd a 10≤9223372036854775807:=by
 unfold iB at h
 unfold rnd
 rw [show (2:Int) ^ (10 - 1)=512 from rfl,Int.fdiv_eq_ediv_of_nonneg _ (by omega),Int.fdiv_eq_ediv_of_nonneg _ (by omega)]
 omega
theorem wsat (v:Int):IntKind.i64.wrap (satI v)=satI v:=wi64 (by have:=satI_ok v; omega)
theorem outV_pos {id n:Nat} (h:0<n):outV id n = .vec id n:=by
 cases n with
 | zero=>omega
 | succ n=>rfl
theorem outB_pos {l:List Int} (h:l≠[]):outB l=[nB l]:=by
 cases l with
 | nil=>exact absurd rfl h
 | cons=>rfl
theorem sDoubledW (w0:World) {iv:CV} {ys xs:List Int} {z:Z6} {s:Sr} (hin:InR w0 iv ys xs) (hx:∀ x∈xs,S16 x) (hz:z.Ok) (hbig:xs.length≤1000000) :
 CallsA Tryz.prog w0 56 [.c (.ptr 0 0),.c iv] [rB z s,sB ys,.dead] fun r H=>r = .o (.c (outV 3 (dbl z xs).1.length))∧H=[rB (dbl z xs).2 s,sB ys,.dead]++outB (dbl z xs).1:=by
 rcases hin with ⟨o,c,rfl,hin⟩ | ⟨a,c,rfl,hin⟩ | ⟨c,rfl,hin⟩
 ·refine callsA_of_ev c56_ ?_
  conv=>whnf
  refine Or.inl ?_
  conv=>whnf
  refine Or.inl ?_
  conv=>whnf
  refine ⟨{k:Nat // k≤xs.length},fun ⟨k,_⟩=>duSt ((CV.sli 1 1 o xs.length c)) xs.length ys s (dbl z (xs.take k)).2 (dbl z (xs.take k)).1 k,fun k=>xs.length - k.1,⟨⟨0,Nat.zero_le _⟩,?_⟩,fun ⟨k,hk⟩ => ?_⟩
  ·exact ⟨[0,1,2,3],⟨rfl,⟨rfl,rfl,rfl,rfl,lk 4 rfl rfl,rfl,rfl,trivial⟩,rfl⟩,rfl,rfl,rfl,rfl,rfl,rfl,trivial⟩
  rcases Nat.eq_zero_or_pos k with hk0 | hk0
  ·subst hk0
   conv=>whnf
   refine ⟨fun h3 => ?_,fun h3 => ?_⟩
   ·have h3:0<xs.length:=lt_t h3
    obtain ⟨x,hk5⟩:∃ x,xs[0]? = some x:=⟨_,List.getElem?_eq_getElem h3⟩
    have hs16:S16 x:=hx x (List.mem_of_getElem? hk5)
    have htk:xs.take (0+1)=xs.take 0++[x]:=by rw [List.take_add_one,hk5]; rfl
    have hZ:(dbl z (xs.take 0)).2.Ok:=dbl_ok hz fun y hy=>hx y (List.mem_of_mem_take hy)
    have hDl:(dbl z (xs.take 0)).1.length=2*0:=by rw [dbl_length,List.length_take]; omega
    have hfin:=dbl_snoc z (xs.take 0) x
    rw [← htk] at hfin
    have hx1:IntKind.i64.wrap (IntKind.i64.wrap x*2 ^ min 10 IntKind.i64.bits)=x*1024:=by
     have h:=hs16
     unfold S16 at h
     rw [wi64 (n:=x) (by omega),show min 10 IntKind.i64.bits=10 from rfl,show (2:Int) ^ 10=1024 from rfl,wi64 (by omega)]
    have hA:iB 33554432 (x*1024):=by unfold S16 at hs16; unfold iB; omega
    generalize hD1:(dbl z (xs.take 0)).1=D1 at *
    generalize hD2:(dbl z (xs.take 0)).2=D2 at *
    obtain ⟨y0,m0,a0,i0,q0,b0,s0⟩:=stage64F (t:=1746) (A:=33554432) (Z:=35400000) (B:=35400000) (by omega) (by omega) hA hZ.a (by omega) (by omega) (by omega) (by omega)
    obtain ⟨e1,e2,e3,e4,e5,e6⟩:=half0 hZ hs16
    obtain ⟨f1,f2,f3,f4,f5,f6⟩:=half1 hZ hs16
    obtain ⟨y1,m1,a1,i1,q1,b1,s1⟩:=stage64F (t:=14986) (A:=35400000) (Z:=56400000) (B:=51600000) (by omega) (by omega) e1 hZ.b (by omega) (by omega) (by omega) (by omega)
    obtain ⟨y2,m2,n2,a2,i2,q2,w2,b2,s2⟩:=stage64T (t := -26453) (C:=39083) (A:=51600000) (Z:=204200000) (B:=120000000) (by unfold S16; omega) rfl (by omega) (by omega) e3 hZ.c (by omega) (by omega) (by omega) (by omega)
    obtain ⟨y3,m3,a3,i3,q3,b3,s3⟩:=stage64F (t:=6854) (A:=33554432) (Z:=41400000) (B:=40600000) (by omega) (by omega) hA hZ.d (by omega) (by omega) (by omega) (by omega)
    obtain ⟨y4,m4,a4,i4,q4,b4,s4⟩:=stage64F (t:=25769) (A:=40600000) (Z:=93300000) (B:=72600000) (by omega) (by omega) f1 hZ.e (by omega) (by omega) (by omega) (by omega)
    obtain ⟨y5,m5,n5,a5,i5,q5,w5,b5,s5⟩:=stage64T (t := -9994) (C:=55542) (A:=72600000) (Z:=880000000) (B:=200000000) (by unfold S16; omega) rfl (by omega) (by omega) f3 hZ.f (by omega) (by omega) (by omega) (by omega)
    have j2:=e5
    have j5:=f5
    have hrn2:=rnd_bd j2
    have hrn5:=rnd_bd j5
    have hup:upS D2 x=((satI (rnd (stg (-26453) true D2.c (stg 14986 false D2.b (stg 1746 false D2.a (x*1024)).1).1).1 10),satI (rnd (stg (-9994) true D2.f (stg 25769 false D2.e (stg 6854 false D2.d (x*1024)).1).1).1 10)),
     ⟨(stg 1746 false D2.a (x*1024)).2,(stg 14986 false D2.b (stg 1746 false D2.a (x*1024)).1).2,(stg (-26453) true D2.c (stg 14986 false D2.b (stg 1746 false D2.a (x*1024)).1).1).2,
      (stg 6854 false D2.d (x*1024)).2,(stg 25769 false D2.e (stg 6854 false D2.d (x*1024)).1).2,(stg (-9994) true D2.f (stg 25769 false D2.e (stg 6854 false D2.d (x*1024)).1).1).2⟩):=rfl
    rw [hup] at hfin
    clear hup e1 e2 e3 e4 e5 e6 f1 f2 f3 f4 f5 f6
    generalize hp0:stg 1746 false D2.a (x*1024)=p0 at *
    generalize hp1:stg 14986 false D2.b p0.1=p1 at *
    generalize hp2:stg (-26453) true D2.c p1.1=p2 at *
    generalize hp3:stg 6854 false D2.d (x*1024)=p3 at *
    generalize hp4:stg 25769 false D2.e p3.1=p4 at *
    generalize hp5:stg (-9994) true D2.f p4.1=p5 at *
    generalize hX:x*1024=X at *
    obtain rfl:D1=[]:=List.length_eq_zero_iff.1 hDl
    conv=>whnf
    refine Or.inl ?_
    conv=>whnf
    refine ⟨⟨Int.natCast_nonneg 0,Int.ofNat_lt.2 h3⟩,?_⟩
    conv=>whnf
    refine ⟨_,hin 0 x hk5,?_⟩
    conv=>whnf
    rw [hx1]
    refine ⟨{h:Nat // h≤2},fun h=>pick3 (duH ((CV.sli 1 1 o xs.length c)) xs.length 0 X ys s D2 (nilC) ([]) 0) (duH ((CV.sli 1 1 o xs.length c)) xs.length 0 X ys s ⟨p0.2,p1.2,p2.2,D2.d,D2.e,D2.f⟩ (.vec 4 (([]:List Int)++[satI (rnd p2.1 10)]).length) [nB (([]:List Int)++[satI (rnd p2.1 10)])] 1)
     (duH ((CV.sli 1 1 o xs.length c)) xs.length 0 X ys s ⟨p0.2,p1.2,p2.2,p3.2,p4.2,p5.2⟩ (.vec 4 (([]:List Int)++[satI (rnd p2.1 10),satI (rnd p5.1 10)]).length) [nB (([]:List Int)++[satI (rnd p2.1 10),satI (rnd p5.1 10)])] 2) h.1,fun h=>2 - h.1,⟨⟨0,Nat.zero_le _⟩,[0,1,2,3],⟨rfl,⟨rfl,rfl,rfl,rfl,lk 4 rfl rfl,rfl,rfl,trivial⟩,rfl⟩,rfl,rfl,rfl,rfl,rfl,rfl,rfl,rfl,trivial⟩,fun h => ?_⟩
    rcases h with ⟨_ | _ | _ | h,hh⟩
    ·conv=>whnf
     refine ⟨fun _=>?_,fun g=>absurd g (by decide)⟩
     conv=>whnf
     refine Or.inl ?_
     conv=>whnf
     refine ⟨⟨by decide,by decide⟩,?_⟩
     conv=>whnf
     refine ⟨⟨by decide,by decide⟩,?_⟩
     conv=>whnf
     refine Or.inl ?_
     conv=>whnf
     refine ⟨{j:Nat // j≤3},fun j=>pick4 (duJ ((CV.sli 1 1 o xs.length c)) xs.length 0 X ys s ⟨D2.a,D2.b,D2.c,D2.d,D2.e,D2.f⟩ (nilC) ([]) 0 X 0) (duJ ((CV.sli 1 1 o xs.length c)) xs.length 0 X ys s ⟨p0.2,D2.b,D2.c,D2.d,D2.e,D2.f⟩ (nilC) ([]) 0 p0.1 1) (duJ ((CV.sli 1 1 o xs.length c)) xs.length 0 X ys s ⟨p0.2,p1.2,D2.c,D2.d,D2.e,D2.f⟩ (nilC) ([]) 0 p1.1 2) (duJ ((CV.sli 1 1 o xs.length c)) xs.length 0 X ys s ⟨p0.2,p1.2,p2.2,D2.d,D2.e,D2.f⟩ (nilC) ([]) 0 p2.1 3) j.1,fun j=>3 - j.1,⟨⟨0,Nat.zero_le _⟩,[0,1,2,3],⟨rfl,⟨rfl,rfl,rfl,rfl,lk 4 rfl rfl,rfl,rfl,trivial⟩,rfl⟩,rfl,rfl,rfl,rfl,rfl,rfl,rfl,rfl,rfl,rfl,rfl,rfl,rfl,trivial⟩,fun j => ?_⟩
     rcases j with ⟨_ | _ | _ | _ | j,hj⟩
     ·conv=>whnf
      refine ⟨fun _=>?_,fun g=>absurd g (by decide)⟩
      conv=>whnf
      refine Or.inl ?_
      conv=>whnf
      refine ⟨by decide,?_⟩
      conv=>whnf
      rw [a0]
      conv=>whnf
      refine ⟨by decide,?_⟩
      conv=>whnf
      refine callV (sM w0 i0 (by unfold S16; decide)) rfl ?_
      conv=>whnf
      rw [show wb y0 ((1746:Nat):Int)=m0 from q0]
      conv=>whnf
      refine Or.inl ?_
      conv=>whnf
      refine ⟨fun g=>absurd g (by decide),fun _=>?_⟩
      conv=>whnf
      refine ⟨by decide,?_⟩
      conv=>whnf
      rw [b0]
      conv=>whnf
      refine ⟨by decide,?_⟩
      conv=>whnf
      rw [s0]
      conv=>whnf
      refine ⟨⟨1,Nat.le_of_ble_eq_true rfl⟩,?_,by show 3 - 1<3 - 0; decide⟩
      dsimp -iota only [duJ,pick4]
      exact ⟨[0,1,2,3],⟨rfl,⟨rfl,rfl,rfl,rfl,lk 4 rfl rfl,rfl,rfl,trivial⟩,rfl⟩,rfl,rfl,rfl,rfl,rfl,rfl,rfl,rfl,rfl,rfl,rfl,rfl,rfl,trivial⟩
     ·conv=>whnf
      refine ⟨fun _=>?_,fun g=>absurd g (by decide)⟩
      conv=>whnf
      refine Or.inl ?_
      conv=>whnf
      refine ⟨by decide,?_⟩
      conv=>whnf
      rw [a1]
      conv=>whnf
      refine ⟨by decide,?_⟩
      conv=>whnf
      refine callV (sM w0 i1 (by unfold S16; decide)) rfl ?_
      conv=>whnf
      rw [show wb y1 ((14986:Nat):Int)=m1 from q1]
      conv=>whnf
      refine Or.inl ?_
      conv=>whnf
      refine ⟨fun g=>absurd g (by decide),fun _=>?_⟩
      conv=>whnf
      refine ⟨by decide,?_⟩
      conv=>whnf
      rw [b1]
      conv=>whnf
      refine ⟨by decide,?_⟩
      conv=>whnf
      rw [s1]
      conv=>whnf
      refine ⟨⟨2,Nat.le_of_ble_eq_true rfl⟩,?_,by show 3 - 2<3 - 1; decide⟩
      dsimp -iota only [duJ,pick4]
      exact ⟨[0,1,2,3],⟨rfl,⟨rfl,rfl,rfl,rfl,lk 4 rfl rfl,rfl,rfl,trivial⟩,rfl⟩,rfl,rfl,rfl,rfl,rfl,rfl,rfl,rfl,rfl,rfl,rfl,rfl,rfl,trivial⟩
     ·conv=>whnf
      refine ⟨fun _=>?_,fun g=>absurd g (by decide)⟩
      conv=>whnf
      refine Or.inl ?_
      conv=>whnf
      refine ⟨by decide,?_⟩
      conv=>whnf
      rw [a2]
      conv=>whnf
      refine ⟨by decide,?_⟩
      conv=>whnf
      refine callV (sM w0 i2 (by unfold S16; decide)) rfl ?_
      conv=>whnf
      rw [q2]
      conv=>whnf
      refine Or.inl ?_
      conv=>whnf
      refine ⟨fun _=>?_,fun g=>absurd g (by decide)⟩
      conv=>whnf
      rw [w2]
      conv=>whnf
      refine ⟨by decide,?_⟩
      conv=>whnf
      rw [b2]
      conv=>whnf
      refine ⟨by decide,?_⟩
      conv=>whnf
      rw [s2]
      conv=>whnf
      refine ⟨⟨3,Nat.le_of_ble_eq_true rfl⟩,?_,by show 3 - 3<3 - 2; decide⟩
      dsimp -iota only [duJ,pick4]
      exact ⟨[0,1,2,3],⟨rfl,⟨rfl,rfl,rfl,rfl,lk 4 rfl rfl,rfl,rfl,trivial⟩,rfl⟩,rfl,rfl,rfl,rfl,rfl,rfl,rfl,rfl,rfl,rfl,rfl,rfl,rfl,trivial⟩
     ·conv=>whnf
      refine ⟨fun g=>absurd g (by decide),fun _=>?_⟩
      conv=>whnf
      dsimp -iota only
      refine callV (sRoundedW w0 (a:=p2.1) (k:=10) (by unfold iB at j2; omega) (by omega) (by omega)) rfl ?_
      conv=>whnf
      refine callV (sSatW w0 (a:=rnd p2.1 10) hrn2) rfl ?_
      conv=>whnf
      dsimp -iota only
      rw [wsat]
      refine ⟨by decide,Int,encI .i64,[],[satI (rnd p2.1 10)],fun _=>rfl,⟨rfl,rfl,rfl⟩,by show 1*8≤_; decide,by show 1≤_; decide,?_⟩
      conv=>whnf
      refine ⟨⟨1,Nat.le_of_ble_eq_true rfl⟩,?_,by show 2 - 1<2 - 0; decide⟩
      dsimp -iota only [duH,pick3]
      exact ⟨[0,1,2,3,5],⟨rfl,⟨rfl,rfl,rfl,rfl,lk 6 rfl rfl,rfl,rfl,rfl,rfl,trivial⟩,rfl⟩,rfl,rfl,rfl,rfl,rfl,rfl,rfl,rfl,trivial⟩
     exact absurd hj (by omega)
    ·conv=>whnf
     refine ⟨fun _=>?_,fun g=>absurd g (by decide)⟩
     conv=>whnf
     refine Or.inl ?_
     conv=>whnf
     refine ⟨⟨by decide,by decide⟩,?_⟩
     conv=>whnf
     refine ⟨⟨by decide,by decide⟩,?_⟩
     conv=>whnf
     refine Or.inl ?_
     conv=>whnf
     refine ⟨{j:Nat // j≤3},fun j=>pick4 (duJ ((CV.sli 1 1 o xs.length c)) xs.length 0 X ys s ⟨p0.2,p1.2,p2.2,D2.d,D2.e,D2.f⟩ (.vec 4 (([]:List Int)++[satI (rnd p2.1 10)]).length) ([nB (([]:List Int)++[satI (rnd p2.1 10)])]) 1 X 0) (duJ ((CV.sli 1 1 o xs.length c)) xs.length 0 X ys s ⟨p0.2,p1.2,p2.2,p3.2,D2.e,D2.f⟩ (.vec 4 (([]:List Int)++[satI (rnd p2.1 10)]).length) ([nB (([]:List Int)++[satI (rnd p2.1 10)])]) 1 p3.1 1) (duJ ((CV.sli 1 1 o xs.length c)) xs.length 0 X ys s ⟨p0.2,p1.2,p2.2,p3.2,p4.2,D2.f⟩ (.vec 4 (([]:List Int)++[satI (rnd p2.1 10)]).length) ([nB (([]:List Int)++[satI (rnd p2.1 10)])]) 1 p4.1 2) (duJ ((CV.sli 1 1 o xs.length c)) xs.length 0 X ys s ⟨p0.2,p1.2,p2.2,p3.2,p4.2,p5.2⟩ (.vec 4 (([]:List Int)++[satI (rnd p2.1 10)]).length) ([nB (([]:List Int)++[satI (rnd p2.1 10)])]) 1 p5.1 3) j.1,fun j=>3 - j.1,⟨⟨0,Nat.zero_le _⟩,[0,1,2,3,4],⟨rfl,⟨rfl,rfl,rfl,rfl,lk 5 rfl rfl,rfl,rfl,rfl,rfl,trivial⟩,rfl⟩,rfl,rfl,rfl,rfl,rfl,rfl,rfl,rfl,rfl,rfl,rfl,rfl,rfl,trivial⟩,fun j => ?_⟩
     rcases j with ⟨_ | _ | _ | _ | j,hj⟩
     ·conv=>whnf
      refine ⟨fun _=>?_,fun g=>absurd g (by decide)⟩
      conv=>whnf
      refine Or.inl ?_
      conv=>whnf
      refine ⟨by decide,?_⟩
      conv=>whnf
      rw [a3]
      conv=>whnf
      refine ⟨by decide,?_⟩
      conv=>whnf
      refine callV (sM w0 i3 (by unfold S16; decide)) rfl ?_
      conv=>whnf
      rw [show wb y3 ((6854:Nat):Int)=m3 from q3]
      conv=>whnf
      refine Or.inl ?_
      conv=>whnf
      refine ⟨fun g=>absurd g (by decide),fun _=>?_⟩
      conv=>whnf
      refine ⟨by decide,?_⟩
      conv=>whnf
      rw [b3]
      conv=>whnf
      refine ⟨by decide,?_⟩
      conv=>whnf
      rw [s3]
      conv=>whnf
      refine ⟨⟨1,Nat.le_of_ble_eq_true rfl⟩,?_,by show 3 - 1<3 - 0; decide⟩
      dsimp -iota only [duJ,pick4]
      exact ⟨[0,1,2,3,4],⟨rfl,⟨rfl,rfl,rfl,rfl,lk 5 rfl rfl,rfl,rfl,rfl,rfl,trivial⟩,rfl⟩,rfl,rfl,rfl,rfl,rfl,rfl,rfl,rfl,rfl,rfl,rfl,rfl,rfl,trivial⟩
     ·conv=>whnf
      refine ⟨fun _=>?_,fun g=>absurd g (by decide)⟩
      conv=>whnf
      refine Or.inl ?_
      conv=>whnf
      refine ⟨by decide,?_⟩
      conv=>whnf
      rw [a4]
      conv=>whnf
      refine ⟨by decide,?_⟩
      conv=>whnf
      refine callV (sM w0 i4 (by unfold S16; decide)) rfl ?_
      conv=>whnf
      rw [show wb y4 ((25769:Nat):Int)=m4 from q4]
      conv=>whnf
      refine Or.inl ?_
      conv=>whnf
      refine ⟨fun g=>absurd g (by decide),fun _=>?_⟩
      conv=>whnf
      refine ⟨by decide,?_⟩
      conv=>whnf
      rw [b4]
      conv=>whnf
      refine ⟨by decide,?_⟩
      conv=>whnf
      rw [s4]
      conv=>whnf
      refine ⟨⟨2,Nat.le_of_ble_eq_true rfl⟩,?_,by show 3 - 2<3 - 1; decide⟩
      dsimp -iota only [duJ,pick4]
      exact ⟨[0,1,2,3,4],⟨rfl,⟨rfl,rfl,rfl,rfl,lk 5 rfl rfl,rfl,rfl,rfl,rfl,trivial⟩,rfl⟩,rfl,rfl,rfl,rfl,rfl,rfl,rfl,rfl,rfl,rfl,rfl,rfl,rfl,trivial⟩
     ·conv=>whnf
      refine ⟨fun _=>?_,fun g=>absurd g (by decide)⟩
      conv=>whnf
      refine Or.inl ?_
      conv=>whnf
      refine ⟨by decide,?_⟩
      conv=>whnf
      rw [a5]
      conv=>whnf
      refine ⟨by decide,?_⟩
      conv=>whnf
      refine callV (sM w0 i5 (by unfold S16; decide)) rfl ?_
      conv=>whnf
      rw [q5]
      conv=>whnf
      refine Or.inl ?_
      conv=>whnf
      refine ⟨fun _=>?_,fun g=>absurd g (by decide)⟩
      conv=>whnf
      rw [w5]
      conv=>whnf
      refine ⟨by decide,?_⟩
      conv=>whnf
      rw [b5]
      conv=>whnf
      refine ⟨by decide,?_⟩
      conv=>whnf
      rw [s5]
      conv=>whnf
      refine ⟨⟨3,Nat.le_of_ble_eq_true rfl⟩,?_,by show 3 - 3<3 - 2; decide⟩
      dsimp -iota only [duJ,pick4]
      exact ⟨[0,1,2,3,4],⟨rfl,⟨rfl,rfl,rfl,rfl,lk 5 rfl rfl,rfl,rfl,rfl,rfl,trivial⟩,rfl⟩,rfl,rfl,rfl,rfl,rfl,rfl,rfl,rfl,rfl,rfl,rfl,rfl,rfl,trivial⟩
     ·conv=>whnf
      refine ⟨fun g=>absurd g (by decide),fun _=>?_⟩
      conv=>whnf
      dsimp -iota only
      refine callV (sRoundedW w0 (a:=p5.1) (k:=10) (by unfold iB at j5; omega) (by omega) (by omega)) rfl ?_
      conv=>whnf
      refine callV (sSatW w0 (a:=rnd p5.1 10) hrn5) rfl ?_
      conv=>whnf
      dsimp -iota only
      rw [wsat]
      refine ⟨rfl,[satI (rnd p5.1 10)],⟨rfl,rfl,rfl⟩,(by show 2*8≤_; decide),(by show 2≤_; decide),?_⟩
      conv=>whnf
      refine ⟨⟨2,Nat.le_of_ble_eq_true rfl⟩,?_,by show 2 - 2<2 - 1; decide⟩
      dsimp -iota only [duH,pick3]
      exact ⟨[0,1,2,3,6],⟨rfl,⟨rfl,rfl,rfl,rfl,lk 7 rfl rfl,rfl,rfl,congrArg (fun l=>some (nB l)) (List.append_assoc _ _ _),rfl,trivial⟩,rfl⟩,rfl,rfl,congrArg (fun l:List Int=>some (AV.o (.c (.vec 6 l.length)))) (List.append_assoc _ _ _),rfl,rfl,rfl,rfl,rfl,trivial⟩
     exact absurd hj (by omega)
    ·conv=>whnf
     refine ⟨fun g=>absurd g (by decide),fun _=>?_⟩
     conv=>whnf
     rw [ninc (by omega)]
     have z1:=congrArg Prod.fst hfin
     have z2:=congrArg Prod.snd hfin
     simp only at z1 z2
     refine ⟨⟨0+1,h3⟩,?_,Nat.sub_lt_sub_left h3 (Nat.lt_succ_self _)⟩
     show EmbS _ (duSt ((CV.sli 1 1 o xs.length c)) xs.length ys s (dbl z (xs.take (0+1))).2 (dbl z (xs.take (0+1))).1 (0+1)) _
     rw [z1,z2]
     unfold duSt
     rw [outV_pos (by simp),outB_pos (by simp)]
     exact ⟨[0,1,2,3,4],⟨rfl,⟨rfl,rfl,rfl,rfl,lk 5 rfl rfl,rfl,rfl,rfl,rfl,trivial⟩,rfl⟩,rfl,rfl,rfl,rfl,rfl,rfl,trivial⟩
    exact absurd hh (by omega)
   have h3:xs.length≤0:=lt_f h3
   have hn:xs=[]:=List.length_eq_zero_iff.1 (by omega)
   subst hn
   conv=>whnf
   refine Or.inr ⟨[0,1,2],_,[rB z s,sB ys,.dead],⟨rfl,⟨rfl,rfl,rfl,rfl,lk 4 rfl rfl,trivial⟩,rfl⟩,?_,rfl,rfl⟩
   rfl
  conv=>whnf
  refine ⟨fun h3 => ?_,fun h3 => ?_⟩
  ·have h3:k<xs.length:=lt_t h3
   obtain ⟨x,hk5⟩:∃ x,xs[k]? = some x:=⟨_,List.getElem?_eq_getElem h3⟩
   have hs16:S16 x:=hx x (List.mem_of_getElem? hk5)
   have htk:xs.take (k+1)=xs.take k++[x]:=by rw [List.take_add_one,hk5]; rfl
   have hZ:(dbl z (xs.take k)).2.Ok:=dbl_ok hz fun y hy=>hx y (List.mem_of_mem_take hy)
   have hDl:(dbl z (xs.take k)).1.length=2*k:=by rw [dbl_length,List.length_take]; omega
   have hfin:=dbl_snoc z (xs.take k) x
   rw [← htk] at hfin
   have hx1:IntKind.i64.wrap (IntKind.i64.wrap x*2 ^ min 10 IntKind.i64.bits)=x*1024:=by
    have h:=hs16
    unfold S16 at h
    rw [wi64 (n:=x) (by omega),show min 10 IntKind.i64.bits=10 from rfl,show (2:Int) ^ 10=1024 from rfl,wi64 (by omega)]
   have hA:iB 33554432 (x*1024):=by unfold S16 at hs16; unfold iB; omega
   generalize hD1:(dbl z (xs.take k)).1=D1 at *
   generalize hD2:(dbl z (xs.take k)).2=D2 at *
   obtain ⟨y0,m0,a0,i0,q0,b0,s0⟩:=stage64F (t:=1746) (A:=33554432) (Z:=35400000) (B:=35400000) (by omega) (by omega) hA hZ.a (by omega) (by omega) (by omega) (by omega)
   obtain ⟨e1,e2,e3,e4,e5,e6⟩:=half0 hZ hs16
   obtain ⟨f1,f2,f3,f4,f5,f6⟩:=half1 hZ hs16
   obtain ⟨y1,m1,a1,i1,q1,b1,s1⟩:=stage64F (t:=14986) (A:=35400000) (Z:=56400000) (B:=51600000) (by omega) (by omega) e1 hZ.b (by omega) (by omega) (by omega) (by omega)
   obtain ⟨y2,m2,n2,a2,i2,q2,w2,b2,s2⟩:=stage64T (t := -26453) (C:=39083) (A:=51600000) (Z:=204200000) (B:=120000000) (by unfold S16; omega) rfl (by omega) (by omega) e3 hZ.c (by omega) (by omega) (by omega) (by omega)
   obtain ⟨y3,m3,a3,i3,q3,b3,s3⟩:=stage64F (t:=6854) (A:=33554432) (Z:=41400000) (B:=40600000) (by omega) (by omega) hA hZ.d (by omega) (by omega) (by omega) (by omega)
   obtain ⟨y4,m4,a4,i4,q4,b4,s4⟩:=stage64F (t:=25769) (A:=40600000) (Z:=93300000) (B:=72600000) (by omega) (by omega) f1 hZ.e (by omega) (by omega) (by omega) (by omega)
   obtain ⟨y5,m5,n5,a5,i5,q5,w5,b5,s5⟩:=stage64T (t := -9994) (C:=55542) (A:=72600000) (Z:=880000000) (B:=200000000) (by unfold S16; omega) rfl (by omega) (by omega) f3 hZ.f (by omega) (by omega) (by omega) (by omega)
   have j2:=e5
   have j5:=f5
   have hrn2:=rnd_bd j2
   have hrn5:=rnd_bd j5
   have hup:upS D2 x=((satI (rnd (stg (-26453) true D2.c (stg 14986 false D2.b (stg 1746 false D2.a (x*1024)).1).1).1 10),satI (rnd (stg (-9994) true D2.f (stg 25769 false D2.e (stg 6854 false D2.d (x*1024)).1).1).1 10)),
    ⟨(stg 1746 false D2.a (x*1024)).2,(stg 14986 false D2.b (stg 1746 false D2.a (x*1024)).1).2,(stg (-26453) true D2.c (stg 14986 false D2.b (stg 1746 false D2.a (x*1024)).1).1).2,
     (stg 6854 false D2.d (x*1024)).2,(stg 25769 false D2.e (stg 6854 false D2.d (x*1024)).1).2,(stg (-9994) true D2.f (stg 25769 false D2.e (stg 6854 false D2.d (x*1024)).1).1).2⟩):=rfl
   rw [hup] at hfin
   clear hup e1 e2 e3 e4 e5 e6 f1 f2 f3 f4 f5 f6
   generalize hp0:stg 1746 false D2.a (x*1024)=p0 at *
   generalize hp1:stg 14986 false D2.b p0.1=p1 at *
   generalize hp2:stg (-26453) true D2.c p1.1=p2 at *
   generalize hp3:stg 6854 false D2.d (x*1024)=p3 at *
   generalize hp4:stg 25769 false D2.e p3.1=p4 at *
   generalize hp5:stg (-9994) true D2.f p4.1=p5 at *
   generalize hX:x*1024=X at *
   have hne:D1≠[]:=by intro h; rw [h] at hDl; simp at hDl; omega
   rw [outV_pos (show 0<D1.length by omega),outB_pos hne]
   conv=>whnf
   refine Or.inl ?_
   conv=>whnf
   refine ⟨⟨Int.natCast_nonneg k,Int.ofNat_lt.2 h3⟩,?_⟩
   conv=>whnf
   refine ⟨_,hin k x hk5,?_⟩
   conv=>whnf
   rw [hx1]
   refine ⟨{h:Nat // h≤2},fun h=>pick3 (duH ((CV.sli 1 1 o xs.length c)) xs.length k X ys s D2 ((.vec 4 D1.length)) ([nB D1]) 0) (duH ((CV.sli 1 1 o xs.length c)) xs.length k X ys s ⟨p0.2,p1.2,p2.2,D2.d,D2.e,D2.f⟩ (.vec 4 (D1++[satI (rnd p2.1 10)]).length) [nB (D1++[satI (rnd p2.1 10)])] 1)
    (duH ((CV.sli 1 1 o xs.length c)) xs.length k X ys s ⟨p0.2,p1.2,p2.2,p3.2,p4.2,p5.2⟩ (.vec 4 (D1++[satI (rnd p2.1 10),satI (rnd p5.1 10)]).length) [nB (D1++[satI (rnd p2.1 10),satI (rnd p5.1 10)])] 2) h.1,fun h=>2 - h.1,⟨⟨0,Nat.zero_le _⟩,[0,1,2,3,4],⟨rfl,⟨rfl,rfl,rfl,rfl,lk 5 rfl rfl,rfl,rfl,rfl,rfl,trivial⟩,rfl⟩,rfl,rfl,rfl,rfl,rfl,rfl,rfl,rfl,trivial⟩,fun h => ?_⟩
   rcases h with ⟨_ | _ | _ | h,hh⟩
   ·conv=>whnf
    refine ⟨fun _=>?_,fun g=>absurd g (by decide)⟩
    conv=>whnf
    refine Or.inl ?_
    conv=>whnf
    refine ⟨⟨by decide,by decide⟩,?_⟩
    conv=>whnf
    refine ⟨⟨by decide,by decide⟩,?_⟩
    conv=>whnf
    refine Or.inl ?_
    conv=>whnf
    refine ⟨{j:Nat // j≤3},fun j=>pick4 (duJ ((CV.sli 1 1 o xs.length c)) xs.length k X ys s ⟨D2.a,D2.b,D2.c,D2.d,D2.e,D2.f⟩ ((.vec 4 D1.length)) ([nB D1]) 0 X 0) (duJ ((CV.sli 1 1 o xs.length c)) xs.length k X ys s ⟨p0.2,D2.b,D2.c,D2.d,D2.e,D2.f⟩ ((.vec 4 D1.length)) ([nB D1]) 0 p0.1 1) (duJ ((CV.sli 1 1 o xs.length c)) xs.length k X ys s ⟨p0.2,p1.2,D2.c,D2.d,D2.e,D2.f⟩ ((.vec 4 D1.length)) ([nB D1]) 0 p1.1 2) (duJ ((CV.sli 1 1 o xs.length c)) xs.length k X ys s ⟨p0.2,p1.2,p2.2,D2.d,D2.e,D2.f⟩ ((.vec 4 D1.length)) ([nB D1]) 0 p2.1 3) j.1,fun j=>3 - j.1,⟨⟨0,Nat.zero_le _⟩,[0,1,2,3,4],⟨rfl,⟨rfl,rfl,rfl,rfl,lk 5 rfl rfl,rfl,rfl,rfl,rfl,trivial⟩,rfl⟩,rfl,rfl,rfl,rfl,rfl,rfl,rfl,rfl,rfl,rfl,rfl,rfl,rfl,trivial⟩,fun j => ?_⟩
    rcases j with ⟨_ | _ | _ | _ | j,hj⟩
    ·conv=>whnf
     refine ⟨fun _=>?_,fun g=>absurd g (by decide)⟩
     conv=>whnf
     refine Or.inl ?_
     conv=>whnf
     refine ⟨by decide,?_⟩
     conv=>whnf
     rw [a0]
     conv=>whnf
     refine ⟨by decide,?_⟩
     conv=>whnf
     refine callV (sM w0 i0 (by unfold S16; decide)) rfl ?_
     conv=>whnf
     rw [show wb y0 ((1746:Nat):Int)=m0 from q0]
     conv=>whnf
     refine Or.inl ?_
     conv=>whnf
     refine ⟨fun g=>absurd g (by decide),fun _=>?_⟩
     conv=>whnf
     refine ⟨by decide,?_⟩
     conv=>whnf
     rw [b0]
     conv=>whnf
     refine ⟨by decide,?_⟩
     conv=>whnf
     rw [s0]
     conv=>whnf
     refine ⟨⟨1,Nat.le_of_ble_eq_true rfl⟩,?_,by show 3 - 1<3 - 0; decide⟩
     dsimp -iota only [duJ,pick4]
     exact ⟨[0,1,2,3,4],⟨rfl,⟨rfl,rfl,rfl,rfl,lk 5 rfl rfl,rfl,rfl,rfl,rfl,trivial⟩,rfl⟩,rfl,rfl,rfl,rfl,rfl,rfl,rfl,rfl,rfl,rfl,rfl,rfl,rfl,trivial⟩
    ·conv=>whnf
     refine ⟨fun _=>?_,fun g=>absurd g (by decide)⟩
     conv=>whnf
     refine Or.inl ?_
     conv=>whnf
     refine ⟨by decide,?_⟩
     conv=>whnf
     rw [a1]
     conv=>whnf
     refine ⟨by decide,?_⟩
     conv=>whnf
     refine callV (sM w0 i1 (by unfold S16; decide)) rfl ?_
     conv=>whnf
     rw [show wb y1 ((14986:Nat):Int)=m1 from q1]
     conv=>whnf
     refine Or.inl ?_
     conv=>whnf
     refine ⟨fun g=>absurd g (by decide),fun _=>?_⟩
     conv=>whnf
     refine ⟨by decide,?_⟩
     conv=>whnf
     rw [b1]
     conv=>whnf
     refine ⟨by decide,?_⟩
     conv=>whnf
     rw [s1]
     conv=>whnf
     refine ⟨⟨2,Nat.le_of_ble_eq_true rfl⟩,?_,by show 3 - 2<3 - 1; decide⟩
     dsimp -iota only [duJ,pick4]
     exact ⟨[0,1,2,3,4],⟨rfl,⟨rfl,rfl,rfl,rfl,lk 5 rfl rfl,rfl,rfl,rfl,rfl,trivial⟩,rfl⟩,rfl,rfl,rfl,rfl,rfl,rfl,rfl,rfl,rfl,rfl,rfl,rfl,rfl,trivial⟩
    ·conv=>whnf
     refine ⟨fun _=>?_,fun g=>absurd g (by decide)⟩
     conv=>whnf
     refine Or.inl ?_
     conv=>whnf
     refine ⟨by decide,?_⟩
     conv=>whnf
     rw [a2]
     conv=>whnf
     refine ⟨by decide,?_⟩
     conv=>whnf
     refine callV (sM w0 i2 (by unfold S16; decide)) rfl ?_
     conv=>whnf
     rw [q2]
     conv=>whnf
     refine Or.inl ?_
     conv=>whnf
     refine ⟨fun _=>?_,fun g=>absurd g (by decide)⟩
     conv=>whnf
     rw [w2]
     conv=>whnf
     refine ⟨by decide,?_⟩
     conv=>whnf
     rw [b2]
     conv=>whnf
     refine ⟨by decide,?_⟩
     conv=>whnf
     rw [s2]
     conv=>whnf
     refine ⟨⟨3,Nat.le_of_ble_eq_true rfl⟩,?_,by show 3 - 3<3 - 2; decide⟩
     dsimp -iota only [duJ,pick4]
     exact ⟨[0,1,2,3,4],⟨rfl,⟨rfl,rfl,rfl,rfl,lk 5 rfl rfl,rfl,rfl,rfl,rfl,trivial⟩,rfl⟩,rfl,rfl,rfl,rfl,rfl,rfl,rfl,rfl,rfl,rfl,rfl,rfl,rfl,trivial⟩
    ·conv=>whnf
     refine ⟨fun g=>absurd g (by decide),fun _=>?_⟩
     conv=>whnf
     dsimp -iota only
     refine callV (sRoundedW w0 (a:=p2.1) (k:=10) (by unfold iB at j2; omega) (by omega) (by omega)) rfl ?_
     conv=>whnf
     refine callV (sSatW w0 (a:=rnd p2.1 10) hrn2) rfl ?_
     conv=>whnf
     dsimp -iota only
     rw [wsat]
     refine ⟨rfl,[satI (rnd p2.1 10)],⟨rfl,rfl,rfl⟩,by simp; omega,by simp; omega,?_⟩
     conv=>whnf
     refine ⟨⟨1,Nat.le_of_ble_eq_true rfl⟩,?_,by show 2 - 1<2 - 0; decide⟩
     dsimp -iota only [duH,pick3]
     exact ⟨[0,1,2,3,6],⟨rfl,⟨rfl,rfl,rfl,rfl,lk 7 rfl rfl,rfl,rfl,rfl,rfl,trivial⟩,rfl⟩,rfl,rfl,rfl,rfl,rfl,rfl,rfl,rfl,trivial⟩
    exact absurd hj (by omega)
   ·conv=>whnf
    refine ⟨fun _=>?_,fun g=>absurd g (by decide)⟩
    conv=>whnf
    refine Or.inl ?_
    conv=>whnf
    refine ⟨⟨by decide,by decide⟩,?_⟩
    conv=>whnf
    refine ⟨⟨by decide,by decide⟩,?_⟩
    conv=>whnf
    refine Or.inl ?_
    conv=>whnf
    refine ⟨{j:Nat // j≤3},fun j=>pick4 (duJ ((CV.sli 1 1 o xs.length c)) xs.length k X ys s ⟨p0.2,p1.2,p2.2,D2.d,D2.e,D2.f⟩ (.vec 4 (D1++[satI (rnd p2.1 10)]).length) ([nB (D1++[satI (rnd p2.1 10)])]) 1 X 0) (duJ ((CV.sli 1 1 o xs.length c)) xs.length k X ys s ⟨p0.2,p1.2,p2.2,p3.2,D2.e,D2.f⟩ (.vec 4 (D1++[satI (rnd p2.1 10)]).length) ([nB (D1++[satI (rnd p2.1 10)])]) 1 p3.1 1) (duJ ((CV.sli 1 1 o xs.length c)) xs.length k X ys s ⟨p0.2,p1.2,p2.2,p3.2,p4.2,D2.f⟩ (.vec 4 (D1++[satI (rnd p2.1 10)]).length) ([nB (D1++[satI (rnd p2.1 10)])]) 1 p4.1 2) (duJ ((CV.sli 1 1 o xs.length c)) xs.length k X ys s ⟨p0.2,p1.2,p2.2,p3.2,p4.2,p5.2⟩ (.vec 4 (D1++[satI (rnd p2.1 10)]).length) ([nB (D1++[satI (rnd p2.1 10)])]) 1 p5.1 3) j.1,fun j=>3 - j.1,⟨⟨0,Nat.zero_le _⟩,[0,1,2,3,4],⟨rfl,⟨rfl,rfl,rfl,rfl,lk 5 rfl rfl,rfl,rfl,rfl,rfl,trivial⟩,rfl⟩,rfl,rfl,rfl,rfl,rfl,rfl,rfl,rfl,rfl,rfl,rfl,rfl,rfl,trivial⟩,fun j => ?_⟩
    rcases j with ⟨_ | _ | _ | _ | j,hj⟩
    ·conv=>whnf
     refine ⟨fun _=>?_,fun g=>absurd g (by decide)⟩
     conv=>whnf
     refine Or.inl ?_
     conv=>whnf
     refine ⟨by decide,?_⟩
     conv=>whnf
     rw [a3]
     conv=>whnf
     refine ⟨by decide,?_⟩
     conv=>whnf
     refine callV (sM w0 i3 (by unfold S16; decide)) rfl ?_
     conv=>whnf
     rw [show wb y3 ((6854:Nat):Int)=m3 from q3]
     conv=>whnf
     refine Or.inl ?_
     conv=>whnf
     refine ⟨fun g=>absurd g (by decide),fun _=>?_⟩
     conv=>whnf
     refine ⟨by decide,?_⟩
     conv=>whnf
     rw [b3]
     conv=>whnf
     refine ⟨by decide,?_⟩
     conv=>whnf
     rw [s3]
     conv=>whnf
     refine ⟨⟨1,Nat.le_of_ble_eq_true rfl⟩,?_,by show 3 - 1<3 - 0; decide⟩
     dsimp -iota only [duJ,pick4]
     exact ⟨[0,1,2,3,4],⟨rfl,⟨rfl,rfl,rfl,rfl,lk 5 rfl rfl,rfl,rfl,rfl,rfl,trivial⟩,rfl⟩,rfl,rfl,rfl,rfl,rfl,rfl,rfl,rfl,rfl,rfl,rfl,rfl,rfl,trivial⟩
    ·conv=>whnf
     refine ⟨fun _=>?_,fun g=>absurd g (by decide)⟩
     conv=>whnf
     refine Or.inl ?_
     conv=>whnf
     refine ⟨by decide,?_⟩
     conv=>whnf
     rw [a4]
     conv=>whnf
     refine ⟨by decide,?_⟩
     conv=>whnf
     refine callV (sM w0 i4 (by unfold S16; decide)) rfl ?_
     conv=>whnf
     rw [show wb y4 ((25769:Nat):Int)=m4 from q4]
     conv=>whnf
     refine Or.inl ?_
     conv=>whnf
     refine ⟨fun g=>absurd g (by decide),fun _=>?_⟩
     conv=>whnf
     refine ⟨by decide,?_⟩
     conv=>whnf
     rw [b4]
     conv=>whnf
     refine ⟨by decide,?_⟩
     conv=>whnf
     rw [s4]
     conv=>whnf
     refine ⟨⟨2,Nat.le_of_ble_eq_true rfl⟩,?_,by show 3 - 2<3 - 1; decide⟩
     dsimp -iota only [duJ,pick4]
     exact ⟨[0,1,2,3,4],⟨rfl,⟨rfl,rfl,rfl,rfl,lk 5 rfl rfl,rfl,rfl,rfl,rfl,trivial⟩,rfl⟩,rfl,rfl,rfl,rfl,rfl,rfl,rfl,rfl,rfl,rfl,rfl,rfl,rfl,trivial⟩
    ·conv=>whnf
     refine ⟨fun _=>?_,fun g=>absurd g (by decide)⟩
     conv=>whnf
     refine Or.inl ?_
     conv=>whnf
     refine ⟨by decide,?_⟩
     conv=>whnf
     rw [a5]
     conv=>whnf
     refine ⟨by decide,?_⟩
     conv=>whnf
     refine callV (sM w0 i5 (by unfold S16; decide)) rfl ?_
     conv=>whnf
     rw [q5]
     conv=>whnf
     refine Or.inl ?_
     conv=>whnf
     refine ⟨fun _=>?_,fun g=>absurd g (by decide)⟩
     conv=>whnf
     rw [w5]
     conv=>whnf
     refine ⟨by decide,?_⟩
     conv=>whnf
     rw [b5]
     conv=>whnf
     refine ⟨by decide,?_⟩
     conv=>whnf
     rw [s5]
     conv=>whnf
     refine ⟨⟨3,Nat.le_of_ble_eq_true rfl⟩,?_,by show 3 - 3<3 - 2; decide⟩
     dsimp -iota only [duJ,pick4]
     exact ⟨[0,1,2,3,4],⟨rfl,⟨rfl,rfl,rfl,rfl,lk 5 rfl rfl,rfl,rfl,rfl,rfl,trivial⟩,rfl⟩,rfl,rfl,rfl,rfl,rfl,rfl,rfl,rfl,rfl,rfl,rfl,rfl,rfl,trivial⟩
    ·conv=>whnf
     refine ⟨fun g=>absurd g (by decide),fun _=>?_⟩
     conv=>whnf
     dsimp -iota only
     refine callV (sRoundedW w0 (a:=p5.1) (k:=10) (by unfold iB at j5; omega) (by omega) (by omega)) rfl ?_
     conv=>whnf
     refine callV (sSatW w0 (a:=rnd p5.1 10) hrn5) rfl ?_
     conv=>whnf
     dsimp -iota only
     rw [wsat]
     refine ⟨rfl,[satI (rnd p5.1 10)],⟨rfl,rfl,rfl⟩,(by simp; omega),(by simp; omega),?_⟩
     conv=>whnf
     refine ⟨⟨2,Nat.le_of_ble_eq_true rfl⟩,?_,by show 2 - 2<2 - 1; decide⟩
     dsimp -iota only [duH,pick3]
     exact ⟨[0,1,2,3,6],⟨rfl,⟨rfl,rfl,rfl,rfl,lk 7 rfl rfl,rfl,rfl,congrArg (fun l=>some (nB l)) (List.append_assoc _ _ _),rfl,trivial⟩,rfl⟩,rfl,rfl,congrArg (fun l:List Int=>some (AV.o (.c (.vec 6 l.length)))) (List.append_assoc _ _ _),rfl,rfl,rfl,rfl,rfl,trivial⟩
    exact absurd hj (by omega)
   ·conv=>whnf
    refine ⟨fun g=>absurd g (by decide),fun _=>?_⟩
    conv=>whnf
    rw [ninc (by omega)]
    have z1:=congrArg Prod.fst hfin
    have z2:=congrArg Prod.snd hfin
    simp only at z1 z2
    refine ⟨⟨k+1,h3⟩,?_,Nat.sub_lt_sub_left h3 (Nat.lt_succ_self _)⟩
    show EmbS _ (duSt ((CV.sli 1 1 o xs.length c)) xs.length ys s (dbl z (xs.take (k+1))).2 (dbl z (xs.take (k+1))).1 (k+1)) _
    rw [z1,z2]
    unfold duSt
    rw [outV_pos (by simp),outB_pos (by simp)]
    exact ⟨[0,1,2,3,4],⟨rfl,⟨rfl,rfl,rfl,rfl,lk 5 rfl rfl,rfl,rfl,rfl,rfl,trivial⟩,rfl⟩,rfl,rfl,rfl,rfl,rfl,rfl,trivial⟩
   exact absurd hh (by omega)
  have h3:xs.length≤k:=lt_f h3
  have hne:0<(dbl z (xs.take k)).1.length:=by rw [dbl_length,List.length_take]; omega
  rw [outV_pos hne,outB_pos (List.ne_nil_of_length_pos hne)]
  conv=>whnf
  rw [List.take_of_length_le h3] at hne ⊢
  rw [outV_pos hne,outB_pos (List.ne_nil_of_length_pos hne)]
  exact Or.inr ⟨[0,1,2,4],.o (.c (.vec 3 (dbl z xs).1.length)),[rB (dbl z xs).2 s,sB ys,.dead,nB (dbl z xs).1],⟨rfl,⟨rfl,rfl,rfl,rfl,lk 5 rfl rfl,rfl,rfl,trivial⟩,rfl⟩,rfl,rfl,rfl⟩
 ·refine callsA_of_ev c56_ ?_
  conv=>whnf
  refine Or.inl ?_
  conv=>whnf
  refine Or.inl ?_
  conv=>whnf
  refine ⟨{k:Nat // k≤xs.length},fun ⟨k,_⟩=>duSt ((CV.val (.slice (some a) xs.length c))) xs.length ys s (dbl z (xs.take k)).2 (dbl z (xs.take k)).1 k,fun k=>xs.length - k.1,⟨⟨0,Nat.zero_le _⟩,?_⟩,fun ⟨k,hk⟩ => ?_⟩
  ·exact ⟨[0,1,2,3],⟨rfl,⟨rfl,rfl,rfl,rfl,lk 4 rfl rfl,rfl,rfl,trivial⟩,rfl⟩,rfl,rfl,rfl,rfl,rfl,rfl,trivial⟩
  rcases Nat.eq_zero_or_pos k with hk0 | hk0
  ·subst hk0
   conv=>whnf
   refine ⟨fun h3 => ?_,fun h3 => ?_⟩
   ·have h3:0<xs.length:=lt_t h3
    obtain ⟨x,hk5⟩:∃ x,xs[0]? = some x:=⟨_,List.getElem?_eq_getElem h3⟩
    have hs16:S16 x:=hx x (List.mem_of_getElem? hk5)
    have htk:xs.take (0+1)=xs.take 0++[x]:=by rw [List.take_add_one,hk5]; rfl
    have hZ:(dbl z (xs.take 0)).2.Ok:=dbl_ok hz fun y hy=>hx y (List.mem_of_mem_take hy)
    have hDl:(dbl z (xs.take 0)).1.length=2*0:=by rw [dbl_length,List.length_take]; omega
    have hfin:=dbl_snoc z (xs.take 0) x
    rw [← htk] at hfin
    have hx1:IntKind.i64.wrap (IntKind.i64.wrap x*2 ^ min 10 IntKind.i64.bits)=x*1024:=by
     have h:=hs16
     unfold S16 at h
     rw [wi64 (n:=x) (by omega),show min 10 IntKind.i64.bits=10 from rfl,show (2:Int) ^ 10=1024 from rfl,wi64 (by omega)]
    have hA:iB 33554432 (x*1024):=by unfold S16 at hs16; unfold iB; omega
    generalize hD1:(dbl z (xs.take 0)).1=D1 at *
    generalize hD2:(dbl z (xs.take 0)).2=D2 at *
    obtain ⟨y0,m0,a0,i0,q0,b0,s0⟩:=stage64F (t:=1746) (A:=33554432) (Z:=35400000) (B:=35400000) (by omega) (by omega) hA hZ.a (by omega) (by omega) (by omega) (by omega)
    obtain ⟨e1,e2,e3,e4,e5,e6⟩:=half0 hZ hs16
    obtain ⟨f1,f2,f3,f4,f5,f6⟩:=half1 hZ hs16
    obtain ⟨y1,m1,a1,i1,q1,b1,s1⟩:=stage64F (t:=14986) (A:=35400000) (Z:=56400000) (B:=51600000) (by omega) (by omega) e1 hZ.b (by omega) (by omega) (by omega) (by omega)
    obtain ⟨y2,m2,n2,a2,i2,q2,w2,b2,s2⟩:=stage64T (t := -26453) (C:=39083) (A:=51600000) (Z:=204200000) (B:=120000000) (by unfold S16; omega) rfl (by omega) (by omega) e3 hZ.c (by omega) (by omega) (by omega) (by omega)
    obtain ⟨y3,m3,a3,i3,q3,b3,s3⟩:=stage64F (t:=6854) (A:=33554432) (Z:=41400000) (B:=40600000) (by omega) (by omega) hA hZ.d (by omega) (by omega) (by omega) (by omega)
    obtain ⟨y4,m4,a4,i4,q4,b4,s4⟩:=stage64F (t:=25769) (A:=40600000) (Z:=93300000) (B:=72600000) (by omega) (by omega) f1 hZ.e (by omega) (by omega) (by omega) (by omega)
    obtain ⟨y5,m5,n5,a5,i5,q5,w5,b5,s5⟩:=stage64T (t := -9994) (C:=55542) (A:=72600000) (Z:=880000000) (B:=200000000) (by unfold S16; omega) rfl (by omega) (by omega) f3 hZ.f (by omega) (by omega) (by omega) (by omega)
    have j2:=e5
    have j5:=f5
    have hrn2:=rnd_bd j2
    have hrn5:=rnd_bd j5
    have hup:upS D2 x=((satI (rnd (stg (-26453) true D2.c (stg 14986 false D2.b (stg 1746 false D2.a (x*1024)).1).1).1 10),satI (rnd (stg (-9994) true D2.f (stg 25769 false D2.e (stg 6854 false D2.d (x*1024)).1).1).1 10)),
     ⟨(stg 1746 false D2.a (x*1024)).2,(stg 14986 false D2.b (stg 1746 false D2.a (x*1024)).1).2,(stg (-26453) true D2.c (stg 14986 false D2.b (stg 1746 false D2.a (x*1024)).1).1).2,
      (stg 6854 false D2.d (x*1024)).2,(stg 25769 false D2.e (stg 6854 false D2.d (x*1024)).1).2,(stg (-9994) true D2.f (stg 25769 false D2.e (stg 6854 false D2.d (x*1024)).1).1).2⟩):=rfl
    rw [hup] at hfin
    clear hup e1 e2 e3 e4 e5 e6 f1 f2 f3 f4 f5 f6
    generalize hp0:stg 1746 false D2.a (x*1024)=p0 at *
    generalize hp1:stg 14986 false D2.b p0.1=p1 at *
    generalize hp2:stg (-26453) true D2.c p1.1=p2 at *
    generalize hp3:stg 6854 false D2.d (x*1024)=p3 at *
    generalize hp4:stg 25769 false D2.e p3.1=p4 at *
    generalize hp5:stg (-9994) true D2.f p4.1=p5 at *
    generalize hX:x*1024=X at *
    obtain rfl:D1=[]:=List.length_eq_zero_iff.1 hDl
    conv=>whnf
    refine Or.inl ?_
    conv=>whnf
    refine ⟨⟨Int.natCast_nonneg 0,Int.ofNat_lt.2 h3⟩,?_⟩
    conv=>whnf
    refine ⟨_,hin 0 x hk5,rfl,?_⟩
    conv=>whnf
    rw [hx1]
    refine ⟨{h:Nat // h≤2},fun h=>pick3 (duH ((CV.val (.slice (some a) xs.length c))) xs.length 0 X ys s D2 (nilC) ([]) 0) (duH ((CV.val (.slice (some a) xs.length c))) xs.length 0 X ys s ⟨p0.2,p1.2,p2.2,D2.d,D2.e,D2.f⟩ (.vec 4 (([]:List Int)++[satI (rnd p2.1 10)]).length) [nB (([]:List Int)++[satI (rnd p2.1 10)])] 1)
     (duH ((CV.val (.slice (some a) xs.length c))) xs.length 0 X ys s ⟨p0.2,p1.2,p2.2,p3.2,p4.2,p5.2⟩ (.vec 4 (([]:List Int)++[satI (rnd p2.1 10),satI (rnd p5.1 10)]).length) [nB (([]:List Int)++[satI (rnd p2.1 10),satI (rnd p5.1 10)])] 2) h.1,fun h=>2 - h.1,⟨⟨0,Nat.zero_le _⟩,[0,1,2,3],⟨rfl,⟨rfl,rfl,rfl,rfl,lk 4 rfl rfl,rfl,rfl,trivial⟩,rfl⟩,rfl,rfl,rfl,rfl,rfl,rfl,rfl,rfl,trivial⟩,fun h => ?_⟩
    rcases h with ⟨_ | _ | _ | h,hh⟩
    ·conv=>whnf
     refine ⟨fun _=>?_,fun g=>absurd g (by decide)⟩
     conv=>whnf
     refine Or.inl ?_
     conv=>whnf
     refine ⟨⟨by decide,by decide⟩,?_⟩
     conv=>whnf
     refine ⟨⟨by decide,by decide⟩,?_⟩
     conv=>whnf
     refine Or.inl ?_
     conv=>whnf
     refine ⟨{j:Nat // j≤3},fun j=>pick4 (duJ ((CV.val (.slice (some a) xs.length c))) xs.length 0 X ys s ⟨D2.a,D2.b,D2.c,D2.d,D2.e,D2.f⟩ (nilC) ([]) 0 X 0) (duJ ((CV.val (.slice (some a) xs.length c))) xs.length 0 X ys s ⟨p0.2,D2.b,D2.c,D2.d,D2.e,D2.f⟩ (nilC) ([]) 0 p0.1 1) (duJ ((CV.val (.slice (some a) xs.length c))) xs.length 0 X ys s ⟨p0.2,p1.2,D2.c,D2.d,D2.e,D2.f⟩ (nilC) ([]) 0 p1.1 2) (duJ ((CV.val (.slice (some a) xs.length c))) xs.length 0 X ys s ⟨p0.2,p1.2,p2.2,D2.d,D2.e,D2.f⟩ (nilC) ([]) 0 p2.1 3) j.1,fun j=>3 - j.1,⟨⟨0,Nat.zero_le _⟩,[0,1,2,3],⟨rfl,⟨rfl,rfl,rfl,rfl,lk 4 rfl rfl,rfl,rfl,trivial⟩,rfl⟩,rfl,rfl,rfl,rfl,rfl,rfl,rfl,rfl,rfl,rfl,rfl,rfl,rfl,trivial⟩,fun j => ?_⟩
     rcases j with ⟨_ | _ | _ | _ | j,hj⟩
     ·conv=>whnf
      refine ⟨fun _=>?_,fun g=>absurd g (by decide)⟩
      conv=>whnf
      refine Or.inl ?_
      conv=>whnf
      refine ⟨by decide,?_⟩
      conv=>whnf
      rw [a0]
      conv=>whnf
      refine ⟨by decide,?_⟩
      conv=>whnf
      refine callV (sM w0 i0 (by unfold S16; decide)) rfl ?_
      conv=>whnf
      rw [show wb y0 ((1746:Nat):Int)=m0 from q0]
      conv=>whnf
      refine Or.inl ?_
      conv=>whnf
      refine ⟨fun g=>absurd g (by decide),fun _=>?_⟩
      conv=>whnf
      refine ⟨by decide,?_⟩
      conv=>whnf
      rw [b0]
      conv=>whnf
      refine ⟨by decide,?_⟩
      conv=>whnf
      rw [s0]
      conv=>whnf
      refine ⟨⟨1,Nat.le_of_ble_eq_true rfl⟩,?_,by show 3 - 1<3 - 0; decide⟩
      dsimp -iota only [duJ,pick4]
      exact ⟨[0,1,2,3],⟨rfl,⟨rfl,rfl,rfl,rfl,lk 4 rfl rfl,rfl,rfl,trivial⟩,rfl⟩,rfl,rfl,rfl,rfl,rfl,rfl,rfl,rfl,rfl,rfl,rfl,rfl,rfl,trivial⟩
     ·conv=>whnf
      refine ⟨fun _=>?_,fun g=>absurd g (by decide)⟩
      conv=>whnf
      refine Or.inl ?_
      conv=>whnf
      refine ⟨by decide,?_⟩
      conv=>whnf
      rw [a1]
      conv=>whnf
      refine ⟨by decide,?_⟩
      conv=>whnf
      refine callV (sM w0 i1 (by unfold S16; decide)) rfl ?_
      conv=>whnf
      rw [show wb y1 ((14986:Nat):Int)=m1 from q1]
      conv=>whnf
      refine Or.inl ?_
      conv=>whnf
      refine ⟨fun g=>absurd g (by decide),fun _=>?_⟩
      conv=>whnf
      refine ⟨by decide,?_⟩
      conv=>whnf
      rw [b1]
      conv=>whnf
      refine ⟨by decide,?_⟩
      conv=>whnf
      rw [s1]
      conv=>whnf
      refine ⟨⟨2,Nat.le_of_ble_eq_true rfl⟩,?_,by show 3 - 2<3 - 1; decide⟩
      dsimp -iota only [duJ,pick4]
      exact ⟨[0,1,2,3],⟨rfl,⟨rfl,rfl,rfl,rfl,lk 4 rfl rfl,rfl,rfl,trivial⟩,rfl⟩,rfl,rfl,rfl,rfl,rfl,rfl,rfl,rfl,rfl,rfl,rfl,rfl,rfl,trivial⟩
     ·conv=>whnf
      refine ⟨fun _=>?_,fun g=>absurd g (by decide)⟩
      conv=>whnf
      refine Or.inl ?_
      conv=>whnf
      refine ⟨by decide,?_⟩
      conv=>whnf
      rw [a2]
      conv=>whnf
      refine ⟨by decide,?_⟩
      conv=>whnf
      refine callV (sM w0 i2 (by unfold S16; decide)) rfl ?_
      conv=>whnf
      rw [q2]
      conv=>whnf
      refine Or.inl ?_
      conv=>whnf
      refine ⟨fun _=>?_,fun g=>absurd g (by decide)⟩
      conv=>whnf
      rw [w2]
      conv=>whnf
      refine ⟨by decide,?_⟩
      conv=>whnf
      rw [b2]
      conv=>whnf
      refine ⟨by decide,?_⟩
      conv=>whnf
      rw [s2]
      conv=>whnf
      refine ⟨⟨3,Nat.le_of_ble_eq_true rfl⟩,?_,by show 3 - 3<3 - 2; decide⟩
      dsimp -iota only [duJ,pick4]
      exact ⟨[0,1,2,3],⟨rfl,⟨rfl,rfl,rfl,rfl,lk 4 rfl rfl,rfl,rfl,trivial⟩,rfl⟩,rfl,rfl,rfl,rfl,rfl,rfl,rfl,rfl,rfl,rfl,rfl,rfl,rfl,trivial⟩
     ·conv=>whnf
      refine ⟨fun g=>absurd g (by decide),fun _=>?_⟩
      conv=>whnf
      dsimp -iota only
      refine callV (sRoundedW w0 (a:=p2.1) (k:=10) (by unfold iB at j2; omega) (by omega) (by omega)) rfl ?_
      conv=>whnf
      refine callV (sSatW w0 (a:=rnd p2.1 10) hrn2) rfl ?_
      conv=>whnf
      dsimp -iota only
      rw [wsat]
      refine ⟨by decide,Int,encI .i64,[],[satI (rnd p2.1 10)],fun _=>rfl,⟨rfl,rfl,rfl⟩,by show 1*8≤_; decide,by show 1≤_; decide,?_⟩
      conv=>whnf
      refine ⟨⟨1,Nat.le_of_ble_eq_true rfl⟩,?_,by show 2 - 1<2 - 0; decide⟩
      dsimp -iota only [duH,pick3]
      exact ⟨[0,1,2,3,5],⟨rfl,⟨rfl,rfl,rfl,rfl,lk 6 rfl rfl,rfl,rfl,rfl,rfl,trivial⟩,rfl⟩,rfl,rfl,rfl,rfl,rfl,rfl,rfl,rfl,trivial⟩
     exact absurd hj (by omega)
    ·conv=>whnf
     refine ⟨fun _=>?_,fun g=>absurd g (by decide)⟩
     conv=>whnf
     refine Or.inl ?_
     conv=>whnf
     refine ⟨⟨by decide,by decide⟩,?_⟩
     conv=>whnf
     refine ⟨⟨by decide,by decide⟩,?_⟩
     conv=>whnf
     refine Or.inl ?_
     conv=>whnf
     refine ⟨{j:Nat // j≤3},fun j=>pick4 (duJ ((CV.val (.slice (some a) xs.length c))) xs.length 0 X ys s ⟨p0.2,p1.2,p2.2,D2.d,D2.e,D2.f⟩ (.vec 4 (([]:List Int)++[satI (rnd p2.1 10)]).length) ([nB (([]:List Int)++[satI (rnd p2.1 10)])]) 1 X 0) (duJ ((CV.val (.slice (some a) xs.length c))) xs.length 0 X ys s ⟨p0.2,p1.2,p2.2,p3.2,D2.e,D2.f⟩ (.vec 4 (([]:List Int)++[satI (rnd p2.1 10)]).length) ([nB (([]:List Int)++[satI (rnd p2.1 10)])]) 1 p3.1 1) (duJ ((CV.val (.slice (some a) xs.length c))) xs.length 0 X ys s ⟨p0.2,p1.2,p2.2,p3.2,p4.2,D2.f⟩ (.vec 4 (([]:List Int)++[satI (rnd p2.1 10)]).length) ([nB (([]:List Int)++[satI (rnd p2.1 10)])]) 1 p4.1 2) (duJ ((CV.val (.slice (some a) xs.length c))) xs.length 0 X ys s ⟨p0.2,p1.2,p2.2,p3.2,p4.2,p5.2⟩ (.vec 4 (([]:List Int)++[satI (rnd p2.1 10)]).length) ([nB (([]:List Int)++[satI (rnd p2.1 10)])]) 1 p5.1 3) j.1,fun j=>3 - j.1,⟨⟨0,Nat.zero_le _⟩,[0,1,2,3,4],⟨rfl,⟨rfl,rfl,rfl,rfl,lk 5 rfl rfl,rfl,rfl,rfl,rfl,trivial⟩,rfl⟩,rfl,rfl,rfl,rfl,rfl,rfl,rfl,rfl,rfl,rfl,rfl,rfl,rfl,trivial⟩,fun j => ?_⟩
     rcases j with ⟨_ | _ | _ | _ | j,hj⟩
     ·conv=>whnf
      refine ⟨fun _=>?_,fun g=>absurd g (by decide)⟩
      conv=>whnf
      refine Or.inl ?_
      conv=>whnf
      refine ⟨by decide,?_⟩
      conv=>whnf
      rw [a3]
      conv=>whnf
      refine ⟨by decide,?_⟩
      conv=>whnf
      refine callV (sM w0 i3 (by unfold S16; decide)) rfl ?_
      conv=>whnf
      rw [show wb y3 ((6854:Nat):Int)=m3 from q3]
      conv=>whnf
      refine Or.inl ?_
      conv=>whnf
      refine ⟨fun g=>absurd g (by decide),fun _=>?_⟩
      conv=>whnf
      refine ⟨by decide,?_⟩
      conv=>whnf
      rw [b3]
      conv=>whnf
      refine ⟨by decide,?_⟩
      conv=>whnf
      rw [s3]
      conv=>whnf
      refine ⟨⟨1,Nat.le_of_ble_eq_true rfl⟩,?_,by show 3 - 1<3 - 0; decide⟩
      dsimp -iota only [duJ,pick4]
      exact ⟨[0,1,2,3,4],⟨rfl,⟨rfl,rfl,rfl,rfl,lk 5 rfl rfl,rfl,rfl,rfl,rfl,trivial⟩,rfl⟩,rfl,rfl,rfl,rfl,rfl,rfl,rfl,rfl,rfl,rfl,rfl,rfl,rfl,trivial⟩
     ·conv=>whnf
      refine ⟨fun _=>?_,fun g=>absurd g (by decide)⟩
      conv=>whnf
      refine Or.inl ?_
      conv=>whnf
      refine ⟨by decide,?_⟩
      conv=>whnf
      rw [a4]
      conv=>whnf
      refine ⟨by decide,?_⟩
      conv=>whnf
      refine callV (sM w0 i4 (by unfold S16; decide)) rfl ?_
      conv=>whnf
      rw [show wb y4 ((25769:Nat):Int)=m4 from q4]
      conv=>whnf
      refine Or.inl ?_
      conv=>whnf
      refine ⟨fun g=>absurd g (by decide),fun _=>?_⟩
      conv=>whnf
      refine ⟨by decide,?_⟩
      conv=>whnf
      rw [b4]
      conv=>whnf
      refine ⟨by decide,?_⟩
      conv=>whnf
      rw [s4]
      conv=>whnf
      refine ⟨⟨2,Nat.le_of_ble_eq_true rfl⟩,?_,by show 3 - 2<3 - 1; decide⟩
      dsimp -iota only [duJ,pick4]
      exact ⟨[0,1,2,3,4],⟨rfl,⟨rfl,rfl,rfl,rfl,lk 5 rfl rfl,rfl,rfl,rfl,rfl,trivial⟩,rfl⟩,rfl,rfl,rfl,rfl,rfl,rfl,rfl,rfl,rfl,rfl,rfl,rfl,rfl,trivial⟩
     ·conv=>whnf
      refine ⟨fun _=>?_,fun g=>absurd g (by decide)⟩
      conv=>whnf
      refine Or.inl ?_
      conv=>whnf
      refine ⟨by decide,?_⟩
      conv=>whnf
      rw [a5]
      conv=>whnf
      refine ⟨by decide,?_⟩
      conv=>whnf
      refine callV (sM w0 i5 (by unfold S16; decide)) rfl ?_
      conv=>whnf
      rw [q5]
      conv=>whnf
      refine Or.inl ?_
      conv=>whnf
      refine ⟨fun _=>?_,fun g=>absurd g (by decide)⟩
      conv=>whnf
      rw [w5]
      conv=>whnf
      refine ⟨by decide,?_⟩
      conv=>whnf
      rw [b5]
      conv=>whnf
      refine ⟨by decide,?_⟩
      conv=>whnf
      rw [s5]
      conv=>whnf
      refine ⟨⟨3,Nat.le_of_ble_eq_true rfl⟩,?_,by show 3 - 3<3 - 2; decide⟩
      dsimp -iota only [duJ,pick4]
      exact ⟨[0,1,2,3,4],⟨rfl,⟨rfl,rfl,rfl,rfl,lk 5 rfl rfl,rfl,rfl,rfl,rfl,trivial⟩,rfl⟩,rfl,rfl,rfl,rfl,rfl,rfl,rfl,rfl,rfl,rfl,rfl,rfl,rfl,trivial⟩
     ·conv=>whnf
      refine ⟨fun g=>absurd g (by decide),fun _=>?_⟩
      conv=>whnf
      dsimp -iota only
      refine callV (sRoundedW w0 (a:=p5.1) (k:=10) (by unfold iB at j5; omega) (by omega) (by omega)) rfl ?_
      conv=>whnf
      refine callV (sSatW w0 (a:=rnd p5.1 10) hrn5) rfl ?_
      conv=>whnf
      dsimp -iota only
      rw [wsat]
      refine ⟨rfl,[satI (rnd p5.1 10)],⟨rfl,rfl,rfl⟩,(by show 2*8≤_; decide),(by show 2≤_; decide),?_⟩
      conv=>whnf
      refine ⟨⟨2,Nat.le_of_ble_eq_true rfl⟩,?_,by show 2 - 2<2 - 1; decide⟩
      dsimp -iota only [duH,pick3]
      exact ⟨[0,1,2,3,6],⟨rfl,⟨rfl,rfl,rfl,rfl,lk 7 rfl rfl,rfl,rfl,congrArg (fun l=>some (nB l)) (List.append_assoc _ _ _),rfl,trivial⟩,rfl⟩,rfl,rfl,congrArg (fun l:List Int=>some (AV.o (.c (.vec 6 l.length)))) (List.append_assoc _ _ _),rfl,rfl,rfl,rfl,rfl,trivial⟩
     exact absurd hj (by omega)
    ·conv=>whnf
     refine ⟨fun g=>absurd g (by decide),fun _=>?_⟩
     conv=>whnf
     rw [ninc (by omega)]
     have z1:=congrArg Prod.fst hfin
     have z2:=congrArg Prod.snd hfin
     simp only at z1 z2
     refine ⟨⟨0+1,h3⟩,?_,Nat.sub_lt_sub_left h3 (Nat.lt_succ_self _)⟩
     show EmbS _ (duSt ((CV.val (.slice (some a) xs.length c))) xs.length ys s (dbl z (xs.take (0+1))).2 (dbl z (xs.take (0+1))).1 (0+1)) _
     rw [z1,z2]
     unfold duSt
     rw [outV_pos (by simp),outB_pos (by simp)]
     exact ⟨[0,1,2,3,4],⟨rfl,⟨rfl,rfl,rfl,rfl,lk 5 rfl rfl,rfl,rfl,rfl,rfl,trivial⟩,rfl⟩,rfl,rfl,rfl,rfl,rfl,rfl,trivial⟩
    exact absurd hh (by omega)
   have h3:xs.length≤0:=lt_f h3
   have hn:xs=[]:=List.length_eq_zero_iff.1 (by omega)
   subst hn
   conv=>whnf
   refine Or.inr ⟨[0,1,2],_,[rB z s,sB ys,.dead],⟨rfl,⟨rfl,rfl,rfl,rfl,lk 4 rfl rfl,trivial⟩,rfl⟩,?_,rfl,rfl⟩
   rfl
  conv=>whnf
  refine ⟨fun h3 => ?_,fun h3 => ?_⟩
  ·have h3:k<xs.length:=lt_t h3
   obtain ⟨x,hk5⟩:∃ x,xs[k]? = some x:=⟨_,List.getElem?_eq_getElem h3⟩
   have hs16:S16 x:=hx x (List.mem_of_getElem? hk5)
   have htk:xs.take (k+1)=xs.take k++[x]:=by rw [List.take_add_one,hk5]; rfl
   have hZ:(dbl z (xs.take k)).2.Ok:=dbl_ok hz fun y hy=>hx y (List.mem_of_mem_take hy)
   have hDl:(dbl z (xs.take k)).1.length=2*k:=by rw [dbl_length,List.length_take]; omega
   have hfin:=dbl_snoc z (xs.take k) x
   rw [← htk] at hfin
   have hx1:IntKind.i64.wrap (IntKind.i64.wrap x*2 ^ min 10 IntKind.i64.bits)=x*1024:=by
    have h:=hs16
    unfold S16 at h
    rw [wi64 (n:=x) (by omega),show min 10 IntKind.i64.bits=10 from rfl,show (2:Int) ^ 10=1024 from rfl,wi64 (by omega)]
   have hA:iB 33554432 (x*1024):=by unfold S16 at hs16; unfold iB; omega
   generalize hD1:(dbl z (xs.take k)).1=D1 at *
   generalize hD2:(dbl z (xs.take k)).2=D2 at *
   obtain ⟨y0,m0,a0,i0,q0,b0,s0⟩:=stage64F (t:=1746) (A:=33554432) (Z:=35400000) (B:=35400000) (by omega) (by omega) hA hZ.a (by omega) (by omega) (by omega) (by omega)
   obtain ⟨e1,e2,e3,e4,e5,e6⟩:=half0 hZ hs16
   obtain ⟨f1,f2,f3,f4,f5,f6⟩:=half1 hZ hs16
   obtain ⟨y1,m1,a1,i1,q1,b1,s1⟩:=stage64F (t:=14986) (A:=35400000) (Z:=56400000) (B:=51600000) (by omega) (by omega) e1 hZ.b (by omega) (by omega) (by omega) (by omega)
   obtain ⟨y2,m2,n2,a2,i2,q2,w2,b2,s2⟩:=stage64T (t := -26453) (C:=39083) (A:=51600000) (Z:=204200000) (B:=120000000) (by unfold S16; omega) rfl (by omega) (by omega) e3 hZ.c (by omega) (by omega) (by omega) (by omega)
   obtain ⟨y3,m3,a3,i3,q3,b3,s3⟩:=stage64F (t:=6854) (A:=33554432) (Z:=41400000) (B:=40600000) (by omega) (by omega) hA hZ.d (by omega) (by omega) (by omega) (by omega)
   obtain ⟨y4,m4,a4,i4,q4,b4,s4⟩:=stage64F (t:=25769) (A:=40600000) (Z:=93300000) (B:=72600000) (by omega) (by omega) f1 hZ.e (by omega) (by omega) (by omega) (by omega)
   obtain ⟨y5,m5,n5,a5,i5,q5,w5,b5,s5⟩:=stage64T (t := -9994) (C:=55542) (A:=72600000) (Z:=880000000) (B:=200000000) (by unfold S16; omega) rfl (by omega) (by omega) f3 hZ.f (by omega) (by omega) (by omega) (by omega)
   have j2:=e5
   have j5:=f5
   have hrn2:=rnd_bd j2
   have hrn5:=rnd_bd j5
   have hup:upS D2 x=((satI (rnd (stg (-26453) true D2.c (stg 14986 false D2.b (stg 1746 false D2.a (x*1024)).1).1).1 10),satI (rnd (stg (-9994) true D2.f (stg 25769 false D2.e (stg 6854 false D2.d (x*1024)).1).1).1 10)),
    ⟨(stg 1746 false D2.a (x*1024)).2,(stg 14986 false D2.b (stg 1746 false D2.a (x*1024)).1).2,(stg (-26453) true D2.c (stg 14986 false D2.b (stg 1746 false D2.a (x*1024)).1).1).2,
     (stg 6854 false D2.d (x*1024)).2,(stg 25769 false D2.e (stg 6854 false D2.d (x*1024)).1).2,(stg (-9994) true D2.f (stg 25769 false D2.e (stg 6854 false D2.d (x*1024)).1).1).2⟩):=rfl
   rw [hup] at hfin
   clear hup e1 e2 e3 e4 e5 e6 f1 f2 f3 f4 f5 f6
   generalize hp0:stg 1746 false D2.a (x*1024)=p0 at *
   generalize hp1:stg 14986 false D2.b p0.1=p1 at *
   generalize hp2:stg (-26453) true D2.c p1.1=p2 at *
   generalize hp3:stg 6854 false D2.d (x*1024)=p3 at *
   generalize hp4:stg 25769 false D2.e p3.1=p4 at *
   generalize hp5:stg (-9994) true D2.f p4.1=p5 at *
   generalize hX:x*1024=X at *
   have hne:D1≠[]:=by intro h; rw [h] at hDl; simp at hDl; omega
   rw [outV_pos (show 0<D1.length by omega),outB_pos hne]
   conv=>whnf
   refine Or.inl ?_
   conv=>whnf
   refine ⟨⟨Int.natCast_nonneg k,Int.ofNat_lt.2 h3⟩,?_⟩
   conv=>whnf
   refine ⟨_,hin k x hk5,rfl,?_⟩
   conv=>whnf
   rw [hx1]
   refine ⟨{h:Nat // h≤2},fun h=>pick3 (duH ((CV.val (.slice (some a) xs.length c))) xs.length k X ys s D2 ((.vec 4 D1.length)) ([nB D1]) 0) (duH ((CV.val (.slice (some a) xs.length c))) xs.length k X ys s ⟨p0.2,p1.2,p2.2,D2.d,D2.e,D2.f⟩ (.vec 4 (D1++[satI (rnd p2.1 10)]).length) [nB (D1++[satI (rnd p2.1 10)])] 1)
    (duH ((CV.val (.slice (some a) xs.length c))) xs.length k X ys s ⟨p0.2,p1.2,p2.2,p3.2,p4.2,p5.2⟩ (.vec 4 (D1++[satI (rnd p2.1 10),satI (rnd p5.1 10)]).length) [nB (D1++[satI (rnd p2.1 10),satI (rnd p5.1 10)])] 2) h.1,fun h=>2 - h.1,⟨⟨0,Nat.zero_le _⟩,[0,1,2,3,4],⟨rfl,⟨rfl,rfl,rfl,rfl,lk 5 rfl rfl,rfl,rfl,rfl,rfl,trivial⟩,rfl⟩,rfl,rfl,rfl,rfl,rfl,rfl,rfl,rfl,trivial⟩,fun h => ?_⟩
   rcases h with ⟨_ | _ | _ | h,hh⟩
   ·conv=>whnf
    refine ⟨fun _=>?_,fun g=>absurd g (by decide)⟩
    conv=>whnf
    refine Or.inl ?_
    conv=>whnf
    refine ⟨⟨by decide,by decide⟩,?_⟩
    conv=>whnf
    refine ⟨⟨by decide,by decide⟩,?_⟩
    conv=>whnf
    refine Or.inl ?_
    conv=>whnf
    refine ⟨{j:Nat // j≤3},fun j=>pick4 (duJ ((CV.val (.slice (some a) xs.length c))) xs.length k X ys s ⟨D2.a,D2.b,D2.c,D2.d,D2.e,D2.f⟩ ((.vec 4 D1.length)) ([nB D1]) 0 X 0) (duJ ((CV.val (.slice (some a) xs.length c))) xs.length k X ys s ⟨p0.2,D2.b,D2.c,D2.d,D2.e,D2.f⟩ ((.vec 4 D1.length)) ([nB D1]) 0 p0.1 1) (duJ ((CV.val (.slice (some a) xs.length c))) xs.length k X ys s ⟨p0.2,p1.2,D2.c,D2.d,D2.e,D2.f⟩ ((.vec 4 D1.length)) ([nB D1]) 0 p1.1 2) (duJ ((CV.val (.slice (some a) xs.length c))) xs.length k X ys s ⟨p0.2,p1.2,p2.2,D2.d,D2.e,D2.f⟩ ((.vec 4 D1.length)) ([nB D1]) 0 p2.1 3) j.1,fun j=>3 - j.1,⟨⟨0,Nat.zero_le _⟩,[0,1,2,3,4],⟨rfl,⟨rfl,rfl,rfl,rfl,lk 5 rfl rfl,rfl,rfl,rfl,rfl,trivial⟩,rfl⟩,rfl,rfl,rfl,rfl,rfl,rfl,rfl,rfl,rfl,rfl,rfl,rfl,rfl,trivial⟩,fun j => ?_⟩
    rcases j with ⟨_ | _ | _ | _ | j,hj⟩
    ·conv=>whnf
     refine ⟨fun _=>?_,fun g=>absurd g (by decide)⟩
     conv=>whnf
     refine Or.inl ?_
     conv=>whnf
     refine ⟨by decide,?_⟩
     conv=>whnf
     rw [a0]
     conv=>whnf
     refine ⟨by decide,?_⟩
     conv=>whnf
     refine callV (sM w0 i0 (by unfold S16; decide)) rfl ?_
     conv=>whnf
     rw [show wb y0 ((1746:Nat):Int)=m0 from q0]
     conv=>whnf
     refine Or.inl ?_
     conv=>whnf
     refine ⟨fun g=>absurd g (by decide),fun _=>?_⟩
     conv=>whnf
     refine ⟨by decide,?_⟩
     conv=>whnf
     rw [b0]
     conv=>whnf
     refine ⟨by decide,?_⟩
     conv=>whnf
     rw [s0]
     conv=>whnf
     refine ⟨⟨1,Nat.le_of_ble_eq_true rfl⟩,?_,by show 3 - 1<3 - 0; decide⟩
     dsimp -iota only [duJ,pick4]
     exact ⟨[0,1,2,3,4],⟨rfl,⟨rfl,rfl,rfl,rfl,lk 5 rfl rfl,rfl,rfl,rfl,rfl,trivial⟩,rfl⟩,rfl,rfl,rfl,rfl,rfl,rfl,rfl,rfl,rfl,rfl,rfl,rfl,rfl,trivial⟩
    ·conv=>whnf
     refine ⟨fun _=>?_,fun g=>absurd g (by decide)⟩
     conv=>whnf
     refine Or.inl ?_
     conv=>whnf
     refine ⟨by decide,?_⟩
     conv=>whnf
     rw [a1]
     conv=>whnf
     refine ⟨by decide,?_⟩
     conv=>whnf
     refine callV (sM w0 i1 (by unfold S16; decide)) rfl ?_
     conv=>whnf
     rw [show wb y1 ((14986:Nat):Int)=m1 from q1]
     conv=>whnf
     refine Or.inl ?_
     conv=>whnf
     refine ⟨fun g=>absurd g (by decide),fun _=>?_⟩
     conv=>whnf
     refine ⟨by decide,?_⟩
     conv=>whnf
     rw [b1]
     conv=>whnf
     refine ⟨by decide,?_⟩
     conv=>whnf
     rw [s1]
     conv=>whnf
     refine ⟨⟨2,Nat.le_of_ble_eq_true rfl⟩,?_,by show 3 - 2<3 - 1; decide⟩
     dsimp -iota only [duJ,pick4]
     exact ⟨[0,1,2,3,4],⟨rfl,⟨rfl,rfl,rfl,rfl,lk 5 rfl rfl,rfl,rfl,rfl,rfl,trivial⟩,rfl⟩,rfl,rfl,rfl,rfl,rfl,rfl,rfl,rfl,rfl,rfl,rfl,rfl,rfl,trivial⟩
    ·conv=>whnf
     refine ⟨fun _=>?_,fun g=>absurd g (by decide)⟩
     conv=>whnf
     refine Or.inl ?_
     conv=>whnf
     refine ⟨by decide,?_⟩
     conv=>whnf
     rw [a2]
     conv=>whnf
     refine ⟨by decide,?_⟩
     conv=>whnf
     refine callV (sM w0 i2 (by unfold S16; decide)) rfl ?_
     conv=>whnf
     rw [q2]
     conv=>whnf
     refine Or.inl ?_
     conv=>whnf
     refine ⟨fun _=>?_,fun g=>absurd g (by decide)⟩
     conv=>whnf
     rw [w2]
     conv=>whnf
     refine ⟨by decide,?_⟩
     conv=>whnf
     rw [b2]
     conv=>whnf
     refine ⟨by decide,?_⟩
     conv=>whnf
     rw [s2]
     conv=>whnf
     refine ⟨⟨3,Nat.le_of_ble_eq_true rfl⟩,?_,by show 3 - 3<3 - 2; decide⟩
     dsimp -iota only [duJ,pick4]
     exact ⟨[0,1,2,3,4],⟨rfl,⟨rfl,rfl,rfl,rfl,lk 5 rfl rfl,rfl,rfl,rfl,rfl,trivial⟩,rfl⟩,rfl,rfl,rfl,rfl,rfl,rfl,rfl,rfl,rfl,rfl,rfl,rfl,rfl,trivial⟩
    ·conv=>whnf
     refine ⟨fun g=>absurd g (by decide),fun _=>?_⟩
     conv=>whnf
     dsimp -iota only
     refine callV (sRoundedW w0 (a:=p2.1) (k:=10) (by unfold iB at j2; omega) (by omega) (by omega)) rfl ?_
     conv=>whnf
     refine callV (sSatW w0 (a:=rnd p2.1 10) hrn2) rfl ?_
     conv=>whnf
     dsimp -iota only
     rw [wsat]
     refine ⟨rfl,[satI (rnd p2.1 10)],⟨rfl,rfl,rfl⟩,by simp; omega,by simp; omega,?_⟩
     conv=>whnf
     refine ⟨⟨1,Nat.le_of_ble_eq_true rfl⟩,?_,by show 2 - 1<2 - 0; decide⟩
     dsimp -iota only [duH,pick3]
     exact ⟨[0,1,2,3,6],⟨rfl,⟨rfl,rfl,rfl,rfl,lk 7 rfl rfl,rfl,rfl,rfl,rfl,trivial⟩,rfl⟩,rfl,rfl,rfl,rfl,rfl,rfl,rfl,rfl,trivial⟩
    exact absurd hj (by omega)
   ·conv=>whnf
    refine ⟨fun _=>?_,fun g=>absurd g (by decide)⟩
    conv=>whnf
    refine Or.inl ?_
    conv=>whnf
    refine ⟨⟨by decide,by decide⟩,?_⟩
    conv=>whnf
    refine ⟨⟨by decide,by decide⟩,?_⟩
    conv=>whnf
    refine Or.inl ?_
    conv=>whnf
    refine ⟨{j:Nat // j≤3},fun j=>pick4 (duJ ((CV.val (.slice (some a) xs.length c))) xs.length k X ys s ⟨p0.2,p1.2,p2.2,D2.d,D2.e,D2.f⟩ (.vec 4 (D1++[satI (rnd p2.1 10)]).length) ([nB (D1++[satI (rnd p2.1 10)])]) 1 X 0) (duJ ((CV.val (.slice (some a) xs.length c))) xs.length k X ys s ⟨p0.2,p1.2,p2.2,p3.2,D2.e,D2.f⟩ (.vec 4 (D1++[satI (rnd p2.1 10)]).length) ([nB (D1++[satI (rnd p2.1 10)])]) 1 p3.1 1) (duJ ((CV.val (.slice (some a) xs.length c))) xs.length k X ys s ⟨p0.2,p1.2,p2.2,p3.2,p4.2,D2.f⟩ (.vec 4 (D1++[satI (rnd p2.1 10)]).length) ([nB (D1++[satI (rnd p2.1 10)])]) 1 p4.1 2) (duJ ((CV.val (.slice (some a) xs.length c))) xs.length k X ys s ⟨p0.2,p1.2,p2.2,p3.2,p4.2,p5.2⟩ (.vec 4 (D1++[satI (rnd p2.1 10)]).length) ([nB (D1++[satI (rnd p2.1 10)])]) 1 p5.1 3) j.1,fun j=>3 - j.1,⟨⟨0,Nat.zero_le _⟩,[0,1,2,3,4],⟨rfl,⟨rfl,rfl,rfl,rfl,lk 5 rfl rfl,rfl,rfl,rfl,rfl,trivial⟩,rfl⟩,rfl,rfl,rfl,rfl,rfl,rfl,rfl,rfl,rfl,rfl,rfl,rfl,rfl,trivial⟩,fun j => ?_⟩
    rcases j with ⟨_ | _ | _ | _ | j,hj⟩
    ·conv=>whnf
     refine ⟨fun _=>?_,fun g=>absurd g (by decide)⟩
     conv=>whnf
     refine Or.inl ?_
     conv=>whnf
     refine ⟨by decide,?_⟩
     conv=>whnf
     rw [a3]
     conv=>whnf
     refine ⟨by decide,?_⟩
     conv=>whnf
     refine callV (sM w0 i3 (by unfold S16; decide)) rfl ?_
     conv=>whnf
     rw [show wb y3 ((6854:Nat):Int)=m3 from q3]
     conv=>whnf
     refine Or.inl ?_
     conv=>whnf
     refine ⟨fun g=>absurd g (by decide),fun _=>?_⟩
     conv=>whnf
     refine ⟨by decide,?_⟩
     conv=>whnf
     rw [b3]
     conv=>whnf
     refine ⟨by decide,?_⟩
     conv=>whnf
     rw [s3]
     conv=>whnf
     refine ⟨⟨1,Nat.le_of_ble_eq_true rfl⟩,?_,by show 3 - 1<3 - 0; decide⟩
     dsimp -iota only [duJ,pick4]
     exact ⟨[0,1,2,3,4],⟨rfl,⟨rfl,rfl,rfl,rfl,lk 5 rfl rfl,rfl,rfl,rfl,rfl,trivial⟩,rfl⟩,rfl,rfl,rfl,rfl,rfl,rfl,rfl,rfl,rfl,rfl,rfl,rfl,rfl,trivial⟩
    ·conv=>whnf
     refine ⟨fun _=>?_,fun g=>absurd g (by decide)⟩
     conv=>whnf
     refine Or.inl ?_
     conv=>whnf
     refine ⟨by decide,?_⟩
     conv=>whnf
     rw [a4]
     conv=>whnf
     refine ⟨by decide,?_⟩
     conv=>whnf
     refine callV (sM w0 i4 (by unfold S16; decide)) rfl ?_
     conv=>whnf
     rw [show wb y4 ((25769:Nat):Int)=m4 from q4]
     conv=>whnf
     refine Or.inl ?_
     conv=>whnf
     refine ⟨fun g=>absurd g (by decide),fun _=>?_⟩
     conv=>whnf
     refine ⟨by decide,?_⟩
     conv=>whnf
     rw [b4]
     conv=>whnf
     refine ⟨by decide,?_⟩
     conv=>whnf
     rw [s4]
     conv=>whnf
     refine ⟨⟨2,Nat.le_of_ble_eq_true rfl⟩,?_,by show 3 - 2<3 - 1; decide⟩
     dsimp -iota only [duJ,pick4]
     exact ⟨[0,1,2,3,4],⟨rfl,⟨rfl,rfl,rfl,rfl,lk 5 rfl rfl,rfl,rfl,rfl,rfl,trivial⟩,rfl⟩,rfl,rfl,rfl,rfl,rfl,rfl,rfl,rfl,rfl,rfl,rfl,rfl,rfl,trivial⟩
    ·conv=>whnf
     refine ⟨fun _=>?_,fun g=>absurd g (by decide)⟩
     conv=>whnf
     refine Or.inl ?_
     conv=>whnf
     refine ⟨by decide,?_⟩
     conv=>whnf
     rw [a5]
     conv=>whnf
     refine ⟨by decide,?_⟩
     conv=>whnf
     refine callV (sM w0 i5 (by unfold S16; decide)) rfl ?_
     conv=>whnf
     rw [q5]
     conv=>whnf
     refine Or.inl ?_
     conv=>whnf
     refine ⟨fun _=>?_,fun g=>absurd g (by decide)⟩
     conv=>whnf
     rw [w5]
     conv=>whnf
     refine ⟨by decide,?_⟩
     conv=>whnf
     rw [b5]
     conv=>whnf
     refine ⟨by decide,?_⟩
     conv=>whnf
     rw [s5]
     conv=>whnf
     refine ⟨⟨3,Nat.le_of_ble_eq_true rfl⟩,?_,by show 3 - 3<3 - 2; decide⟩
     dsimp -iota only [duJ,pick4]
     exact ⟨[0,1,2,3,4],⟨rfl,⟨rfl,rfl,rfl,rfl,lk 5 rfl rfl,rfl,rfl,rfl,rfl,trivial⟩,rfl⟩,rfl,rfl,rfl,rfl,rfl,rfl,rfl,rfl,rfl,rfl,rfl,rfl,rfl,trivial⟩
    ·conv=>whnf
     refine ⟨fun g=>absurd g (by decide),fun _=>?_⟩
     conv=>whnf
     dsimp -iota only
     refine callV (sRoundedW w0 (a:=p5.1) (k:=10) (by unfold iB at j5; omega) (by omega) (by omega)) rfl ?_
     conv=>whnf
     refine callV (sSatW w0 (a:=rnd p5.1 10) hrn5) rfl ?_
     conv=>whnf
     dsimp -iota only
     rw [wsat]
     refine ⟨rfl,[satI (rnd p5.1 10)],⟨rfl,rfl,rfl⟩,(by simp; omega),(by simp; omega),?_⟩
     conv=>whnf
     refine ⟨⟨2,Nat.le_of_ble_eq_true rfl⟩,?_,by show 2 - 2<2 - 1; decide⟩
     dsimp -iota only [duH,pick3]
     exact ⟨[0,1,2,3,6],⟨rfl,⟨rfl,rfl,rfl,rfl,lk 7 rfl rfl,rfl,rfl,congrArg (fun l=>some (nB l)) (List.append_assoc _ _ _),rfl,trivial⟩,rfl⟩,rfl,rfl,congrArg (fun l:List Int=>some (AV.o (.c (.vec 6 l.length)))) (List.append_assoc _ _ _),rfl,rfl,rfl,rfl,rfl,trivial⟩
    exact absurd hj (by omega)
   ·conv=>whnf
    refine ⟨fun g=>absurd g (by decide),fun _=>?_⟩
    conv=>whnf
    rw [ninc (by omega)]
    have z1:=congrArg Prod.fst hfin
    have z2:=congrArg Prod.snd hfin
    simp only at z1 z2
    refine ⟨⟨k+1,h3⟩,?_,Nat.sub_lt_sub_left h3 (Nat.lt_succ_self _)⟩
    show EmbS _ (duSt ((CV.val (.slice (some a) xs.length c))) xs.length ys s (dbl z (xs.take (k+1))).2 (dbl z (xs.take (k+1))).1 (k+1)) _
    rw [z1,z2]
    unfold duSt
    rw [outV_pos (by simp),outB_pos (by simp)]
    exact ⟨[0,1,2,3,4],⟨rfl,⟨rfl,rfl,rfl,rfl,lk 5 rfl rfl,rfl,rfl,rfl,rfl,trivial⟩,rfl⟩,rfl,rfl,rfl,rfl,rfl,rfl,trivial⟩
   exact absurd hh (by omega)
  have h3:xs.length≤k:=lt_f h3
  have hne:0<(dbl z (xs.take k)).1.length:=by rw [dbl_length,List.length_take]; omega
  rw [outV_pos hne,outB_pos (List.ne_nil_of_length_pos hne)]
  conv=>whnf
  rw [List.take_of_length_le h3] at hne ⊢
  rw [outV_pos hne,outB_pos (List.ne_nil_of_length_pos hne)]
  exact Or.inr ⟨[0,1,2,4],.o (.c (.vec 3 (dbl z xs).1.length)),[rB (dbl z xs).2 s,sB ys,.dead,nB (dbl z xs).1],⟨rfl,⟨rfl,rfl,rfl,rfl,lk 5 rfl rfl,rfl,rfl,trivial⟩,rfl⟩,rfl,rfl,rfl⟩
 subst hin
 refine callsA_of_ev c56_ ?_
 conv=>whnf
 refine Or.inl ?_
 conv=>whnf
 refine Or.inl ?_
 conv=>whnf
 refine ⟨Unit,fun _=>⟨[(0,.o (.c (.ptr 0 0))),(6,.o (.c nilC)),(20,.o (.c (.val (.int .i64 ((0:Nat):Int))))),(21,.o (.c (.val (.int .i64 ((0:Nat):Int)))))],[rB z s,sB ys,.dead,tapB]⟩,fun _=>0,⟨(),[0,1,2,3],⟨rfl,⟨rfl,rfl,rfl,rfl,lk 4 rfl rfl,rfl,rfl,trivial⟩,rfl⟩,rfl,rfl,rfl,rfl,trivial⟩,fun _=>?_⟩
 conv=>whnf
 refine ⟨fun g=>absurd g (by decide),fun _=>?_⟩
 conv=>whnf
 exact Or.inr ⟨[0,1,2],_,[rB z s,sB ys,.dead],⟨rfl,⟨rfl,rfl,rfl,rfl,lk 4 rfl rfl,trivial⟩,rfl⟩,rfl,rfl,rfl⟩
def tcB (co:List Int):Blk := .cells 3 (co.map (ci .i64))
def boxR:Blk := .cells 33 [.ptr 0 0]
def boxT (L:Nat):Blk := .cells 24 [.sli 3 1 0 L L]
def feSt (iv:CV) (n L:Nat) (ys co:List Int) (s:Sr) (d0 d1:Int) (ov:CV) (ob:List Blk) (k:Nat):S :=
 ⟨[(1,.o (.c (.ptr 4 0))),(2,.o (.c (.ptr 5 0))),(5,.o (.c ov)),(9,.o (.c iv)),(10,.o (.c (.val (.int .i64 n)))),(11,.o (.c (.val (.int .i64 k))))],rB ⟨d0,d1,0,0,0,0⟩ s::sB ys :: .dead::tcB co::boxR::boxT L::ob⟩
theorem tc0 {co:List Int} {i:Nat} {x:Int} (h:co[i]? = some x):(co.map (ci .i64))[i]? = some (ci .i64 x):=by rw [List.getElem?_map,h]; rfl
theorem tcE (co:List Int) (σ:List Nat):tcB co=(tcB co).ren σ := by
 show Blk.cells _ _=Blk.cells _ ((co.map (ci .i64)).map (CV.ren σ))
 rw [map_ci]
theorem sRun2W (w0:World) {iv:CV} {ys xs co:List Int} {d:Int × Int} {s:Sr} {kd L:Nat} (hin:InR w0 iv ys xs) (hx:∀ x∈xs,S16 x) (hz:ArK kd d) (hL:1<L) (hcl:co.length=L) (hc0:co[0]? = some (tapsAR kd).1) (hc1:co[1]? = some (tapsAR kd).2) (hbig:xs.length≤1000000) :
 CallsA Tryz.prog w0 61 [.c iv,.c (.ptr 4 0),.c (.ptr 5 0)] [rB (zA d) s,sB ys,.dead,tcB co,boxR,boxT L]
  fun r H=>r = .o (.c (outV 6 (arRun kd d xs).1.length))∧H=[rB (zA (arRun kd d xs).2) s,sB ys,.dead,tcB co,boxR,boxT L]++outB (arRun kd d xs).1:=by
 rcases hin with ⟨off,c,rfl,hin⟩ | ⟨a,c,rfl,hin⟩ | ⟨c,rfl,hin⟩
 ·refine callsA_of_ev c61_ ?_
  conv=>whnf
  refine Or.inl ?_
  conv=>whnf
  refine ⟨{k:Nat // k≤xs.length},fun ⟨k,_⟩=>feSt ((CV.sli 1 1 off xs.length c)) xs.length L ys co s (arRun kd d (xs.take k)).2.1 (arRun kd d (xs.take k)).2.2 (outV 6 (arRun kd d (xs.take k)).1.length) (outB (arRun kd d (xs.take k)).1) k,fun k=>xs.length - k.1,⟨⟨0,Nat.zero_le _⟩,?_⟩,fun ⟨k,hk⟩ => ?_⟩
  ·exact ⟨[0,1,2,3,4,5],⟨rfl,⟨rfl,rfl,rfl,rfl,lk 6 rfl rfl,congrArg some (tcE co _),rfl,rfl,rfl,rfl,rfl,trivial⟩,rfl⟩,rfl,rfl,rfl,rfl,rfl,rfl,trivial⟩
  rcases Nat.eq_zero_or_pos k with hk0 | hk0
  ·subst hk0
   conv=>whnf
   refine ⟨fun h3 => ?_,fun h3 => ?_⟩
   ·have h3:0<xs.length:=lt_t h3
    obtain ⟨x,hk5⟩:∃ x,xs[0]? = some x:=⟨_,List.getElem?_eq_getElem h3⟩
    have hs16:S16 x:=hx x (List.mem_of_getElem? hk5)
    have htk:xs.take (0+1)=xs.take 0++[x]:=by rw [List.take_add_one,hk5]; rfl
    have hZ:ArK kd (arRun kd d (xs.take 0)).2:=arRun_ok hz fun y hy=>hx y (List.mem_of_mem_take hy)
    have hDl:(arRun kd d (xs.take 0)).1.length=0:=by rw [arRun_len,List.length_take]; omega
    have hfin:arRun kd d (xs.take (0+1))=((arRun kd d (xs.take 0)).1++[(arS (tapsAR kd).1 (tapsAR kd).2 (arRun kd d (xs.take 0)).2 x).1],(arS (tapsAR kd).1 (tapsAR kd).2 (arRun kd d (xs.take 0)).2 x).2):=by rw [htk]; exact runL_snoc (arS (tapsAR kd).1 (tapsAR kd).2) (xs.take 0) x d
    have ho:=(arS_ok hZ hs16).2
    obtain ⟨u,hu,hub⟩:=ar_s2 hZ
    generalize hD1:(arRun kd d (xs.take 0)).1=D1 at *
    generalize hD2:(arRun kd d (xs.take 0)).2=D2 at *
    obtain ⟨d0,d1⟩:=D2
    obtain ⟨hT0,hT1⟩:=taps16 kd
    have hd1:iB 300000001 d1:=by
     have:=wb_bd (a:=u*4) (b:=(tapsAR kd).2) (A:=600000000) (by unfold iB at hub ⊢; omega) hT1
     rw [← hu] at this
     exact this
    have ho2:arS (tapsAR kd).1 (tapsAR kd).2 (d0,d1) x=(d0+x*256,(d1+wb ((d0+x*256)*4) (tapsAR kd).1,wb ((d0+x*256)*4) (tapsAR kd).2)):=rfl
    rw [ho2] at ho hfin
    have hx1:IntKind.i64.wrap (IntKind.i64.wrap x*2 ^ min 8 IntKind.i64.bits)=x*256:=by
     have h:=hs16
     unfold S16 at h
     rw [wi64 (n:=x) (by omega),show min 8 IntKind.i64.bits=8 from rfl,show (2:Int) ^ 8=256 from rfl,wi64 (by omega)]
    have ho1:IntKind.i64.wrap (d0+x*256)=d0+x*256:=wi64 (by unfold iB at ho; simp only at ho; omega)
    have ho4:IntKind.i64.wrap ((d0+x*256)*2 ^ min 2 IntKind.i64.bits)=(d0+x*256)*4:=by
     rw [show min 2 IntKind.i64.bits=2 from rfl,show (2:Int) ^ 2=4 from rfl]
     exact wi64 (by unfold iB at ho; simp only at ho; omega)
    have hI:iB 1099511627776 ((d0+x*256)*4):=by unfold iB at ho ⊢; simp only at ho; omega
    have hw0:IntKind.i64.wrap (d1+wb ((d0+x*256)*4) (tapsAR kd).1)=d1+wb ((d0+x*256)*4) (tapsAR kd).1:=by
     have:=wb_bd (a:=(d0+x*256)*4) (A:=600000000) (by unfold iB at ho ⊢; simp only at ho; omega) hT0
     unfold iB at this hd1
     exact wi64 (by omega)
    generalize hO:d0+x*256=o at *
    generalize hwe0:d1+wb (o*4) (tapsAR kd).1=w0' at *
    obtain rfl:D1=[]:=List.length_eq_zero_iff.1 hDl
    conv=>whnf
    refine ⟨⟨Int.natCast_nonneg 0,Int.ofNat_lt.2 h3⟩,?_⟩
    conv=>whnf
    refine ⟨_,hin 0 x hk5,?_⟩
    conv=>whnf
    conv=>whnf
    refine ⟨by decide,?_⟩
    conv=>whnf
    rw [hx1,hO,ho1]
    conv=>whnf
    dsimp -iota only
    refine ⟨by decide,Int,encI .i64,[],[o],fun _=>rfl,⟨rfl,rfl,rfl⟩,by show 1*8≤_; decide,by show 1≤_; decide,?_⟩
    conv=>whnf
    dsimp -iota only
    rw [ho4]
    refine ⟨by decide,?_⟩
    conv=>whnf
    refine ⟨⟨by decide,Int.ofNat_lt.2 (by omega:0<L)⟩,?_⟩
    conv=>whnf
    refine dropF_get (n:=0) (l:=co.map (ci .i64)) (tc0 hc0) ?_
    conv=>whnf
    refine callV (sMulWBW w0 hI hT0) rfl ?_
    conv=>whnf
    refine ⟨⟨⟨rfl,rfl⟩,⟨rfl,rfl⟩,⟨rfl,rfl⟩,trivial⟩,?_⟩
    conv=>whnf
    dsimp -iota only
    rw [hwe0,hw0]
    refine ⟨by decide,?_⟩
    conv=>whnf
    refine ⟨trivial,?_⟩
    conv=>whnf
    dsimp -iota only
    refine ⟨⟨by decide,Int.ofNat_lt.2 (by omega:1<L)⟩,?_⟩
    conv=>whnf
    refine dropF_get (n:=1) (l:=co.map (ci .i64)) (tc0 hc1) ?_
    conv=>whnf
    refine callV (sMulWBW w0 hI hT1) rfl ?_
    conv=>whnf
    refine ⟨⟨⟨rfl,rfl⟩,trivial⟩,?_⟩
    conv=>whnf
    dsimp -iota only
    refine ⟨by decide,?_⟩
    conv=>whnf
    refine ⟨trivial,?_⟩
    conv=>whnf
    rw [ninc (by omega)]
    have z1:=congrArg Prod.fst hfin
    have z2:=congrArg Prod.snd hfin
    simp only at z1 z2
    refine ⟨⟨0+1,h3⟩,?_,Nat.sub_lt_sub_left h3 (Nat.lt_succ_self _)⟩
    show EmbS _ (feSt ((CV.sli 1 1 off xs.length c)) xs.length L ys co s (arRun kd d (xs.take (0+1))).2.1 (arRun kd d (xs.take (0+1))).2.2 (outV 6 (arRun kd d (xs.take (0+1))).1.length) (outB (arRun kd d (xs.take (0+1))).1) (0+1)) _
    rw [z1,z2,outV_pos (by simp),outB_pos (by simp)]
    exact ⟨[0,1,2,3,4,5,7],⟨rfl,⟨rfl,rfl,rfl,rfl,lk 8 rfl rfl,congrArg some (tcE co _),rfl,rfl,rfl,rfl,rfl,rfl,rfl,trivial⟩,rfl⟩,rfl,rfl,rfl,rfl,rfl,rfl,trivial⟩
   have h3:xs.length≤0:=lt_f h3
   have hn:xs=[]:=List.length_eq_zero_iff.1 (by omega)
   subst hn
   conv=>whnf
   exact Or.inl ⟨rfl,rfl⟩
  conv=>whnf
  refine ⟨fun h3 => ?_,fun h3 => ?_⟩
  ·have h3:k<xs.length:=lt_t h3
   obtain ⟨x,hk5⟩:∃ x,xs[k]? = some x:=⟨_,List.getElem?_eq_getElem h3⟩
   have hs16:S16 x:=hx x (List.mem_of_getElem? hk5)
   have htk:xs.take (k+1)=xs.take k++[x]:=by rw [List.take_add_one,hk5]; rfl
   have hZ:ArK kd (arRun kd d (xs.take k)).2:=arRun_ok hz fun y hy=>hx y (List.mem_of_mem_take hy)
   have hDl:(arRun kd d (xs.take k)).1.length=k:=by rw [arRun_len,List.length_take]; omega
   have hfin:arRun kd d (xs.take (k+1))=((arRun kd d (xs.take k)).1++[(arS (tapsAR kd).1 (tapsAR kd).2 (arRun kd d (xs.take k)).2 x).1],(arS (tapsAR kd).1 (tapsAR kd).2 (arRun kd d (xs.take k)).2 x).2):=by rw [htk]; exact runL_snoc (arS (tapsAR kd).1 (tapsAR kd).2) (xs.take k) x d
   have ho:=(arS_ok hZ hs16).2
   obtain ⟨u,hu,hub⟩:=ar_s2 hZ
   generalize hD1:(arRun kd d (xs.take k)).1=D1 at *
   generalize hD2:(arRun kd d (xs.take k)).2=D2 at *
   obtain ⟨d0,d1⟩:=D2
   obtain ⟨hT0,hT1⟩:=taps16 kd
   have hd1:iB 300000001 d1:=by
    have:=wb_bd (a:=u*4) (b:=(tapsAR kd).2) (A:=600000000) (by unfold iB at hub ⊢; omega) hT1
    rw [← hu] at this
    exact this
   have ho2:arS (tapsAR kd).1 (tapsAR kd).2 (d0,d1) x=(d0+x*256,(d1+wb ((d0+x*256)*4) (tapsAR kd).1,wb ((d0+x*256)*4) (tapsAR kd).2)):=rfl
   rw [ho2] at ho hfin
   have hx1:IntKind.i64.wrap (IntKind.i64.wrap x*2 ^ min 8 IntKind.i64.bits)=x*256:=by
    have h:=hs16
    unfold S16 at h
    rw [wi64 (n:=x) (by omega),show min 8 IntKind.i64.bits=8 from rfl,show (2:Int) ^ 8=256 from rfl,wi64 (by omega)]
   have ho1:IntKind.i64.wrap (d0+x*256)=d0+x*256:=wi64 (by unfold iB at ho; simp only at ho; omega)
   have ho4:IntKind.i64.wrap ((d0+x*256)*2 ^ min 2 IntKind.i64.bits)=(d0+x*256)*4:=by
    rw [show min 2 IntKind.i64.bits=2 from rfl,show (2:Int) ^ 2=4 from rfl]
    exact wi64 (by unfold iB at ho; simp only at ho; omega)
   have hI:iB 1099511627776 ((d0+x*256)*4):=by unfold iB at ho ⊢; simp only at ho; omega
   have hw0:IntKind.i64.wrap (d1+wb ((d0+x*256)*4) (tapsAR kd).1)=d1+wb ((d0+x*256)*4) (tapsAR kd).1:=by
    have:=wb_bd (a:=(d0+x*256)*4) (A:=600000000) (by unfold iB at ho ⊢; simp only at ho; omega) hT0
    unfold iB at this hd1
    exact wi64 (by omega)
   generalize hO:d0+x*256=o at *
   generalize hwe0:d1+wb (o*4) (tapsAR kd).1=w0' at *
   have hne:D1≠[]:=by intro h; rw [h] at hDl; simp at hDl; omega
   rw [outV_pos (show 0<D1.length by omega),outB_pos hne]
   conv=>whnf
   refine ⟨⟨Int.natCast_nonneg k,Int.ofNat_lt.2 h3⟩,?_⟩
   conv=>whnf
   refine ⟨_,hin k x hk5,?_⟩
   conv=>whnf
   conv=>whnf
   refine ⟨by decide,?_⟩
   conv=>whnf
   rw [hx1,hO,ho1]
   conv=>whnf
   dsimp -iota only
   refine ⟨rfl,[o],⟨rfl,rfl,rfl⟩,by simp; omega,by simp; omega,?_⟩
   conv=>whnf
   dsimp -iota only
   rw [ho4]
   refine ⟨by decide,?_⟩
   conv=>whnf
   refine ⟨⟨by decide,Int.ofNat_lt.2 (by omega:0<L)⟩,?_⟩
   conv=>whnf
   refine dropF_get (n:=0) (l:=co.map (ci .i64)) (tc0 hc0) ?_
   conv=>whnf
   refine callV (sMulWBW w0 hI hT0) rfl ?_
   conv=>whnf
   refine ⟨⟨⟨rfl,rfl⟩,⟨rfl,rfl⟩,⟨rfl,rfl⟩,trivial⟩,?_⟩
   conv=>whnf
   dsimp -iota only
   rw [hwe0,hw0]
   refine ⟨by decide,?_⟩
   conv=>whnf
   refine ⟨trivial,?_⟩
   conv=>whnf
   dsimp -iota only
   refine ⟨⟨by decide,Int.ofNat_lt.2 (by omega:1<L)⟩,?_⟩
   conv=>whnf
   refine dropF_get (n:=1) (l:=co.map (ci .i64)) (tc0 hc1) ?_
   conv=>whnf
   refine callV (sMulWBW w0 hI hT1) rfl ?_
   conv=>whnf
   refine ⟨⟨⟨rfl,rfl⟩,trivial⟩,?_⟩
   conv=>whnf
   dsimp -iota only
   refine ⟨by decide,?_⟩
   conv=>whnf
   refine ⟨trivial,?_⟩
   conv=>whnf
   rw [ninc (by omega)]
   have z1:=congrArg Prod.fst hfin
   have z2:=congrArg Prod.snd hfin
   simp only at z1 z2
   refine ⟨⟨k+1,h3⟩,?_,Nat.sub_lt_sub_left h3 (Nat.lt_succ_self _)⟩
   show EmbS _ (feSt ((CV.sli 1 1 off xs.length c)) xs.length L ys co s (arRun kd d (xs.take (k+1))).2.1 (arRun kd d (xs.take (k+1))).2.2 (outV 6 (arRun kd d (xs.take (k+1))).1.length) (outB (arRun kd d (xs.take (k+1))).1) (k+1)) _
   rw [z1,z2,outV_pos (by simp),outB_pos (by simp)]
   exact ⟨[0,1,2,3,4,5,8],⟨rfl,⟨rfl,rfl,rfl,rfl,lk 9 rfl rfl,congrArg some (tcE co _),rfl,rfl,rfl,rfl,rfl,rfl,rfl,trivial⟩,rfl⟩,rfl,rfl,rfl,rfl,rfl,rfl,trivial⟩
  have h3:xs.length≤k:=lt_f h3
  have hne:0<(arRun kd d (xs.take k)).1.length:=by rw [arRun_len,List.length_take]; omega
  rw [outV_pos hne,outB_pos (List.ne_nil_of_length_pos hne)]
  conv=>whnf
  rw [List.take_of_length_le h3] at hne ⊢
  rw [outV_pos hne,outB_pos (List.ne_nil_of_length_pos hne)]
  exact Or.inl ⟨rfl,rfl⟩
 ·refine callsA_of_ev c61_ ?_
  conv=>whnf
  refine Or.inl ?_
  conv=>whnf
  refine ⟨{k:Nat // k≤xs.length},fun ⟨k,_⟩=>feSt ((CV.val (.slice (some a) xs.length c))) xs.length L ys co s (arRun kd d (xs.take k)).2.1 (arRun kd d (xs.take k)).2.2 (outV 6 (arRun kd d (xs.take k)).1.length) (outB (arRun kd d (xs.take k)).1) k,fun k=>xs.length - k.1,⟨⟨0,Nat.zero_le _⟩,?_⟩,fun ⟨k,hk⟩ => ?_⟩
  ·exact ⟨[0,1,2,3,4,5],⟨rfl,⟨rfl,rfl,rfl,rfl,lk 6 rfl rfl,congrArg some (tcE co _),rfl,rfl,rfl,rfl,rfl,trivial⟩,rfl⟩,rfl,rfl,rfl,rfl,rfl,rfl,trivial⟩
  rcases Nat.eq_zero_or_pos k with hk0 | hk0
  ·subst hk0
   conv=>whnf
   refine ⟨fun h3 => ?_,fun h3 => ?_⟩
   ·have h3:0<xs.length:=lt_t h3
    obtain ⟨x,hk5⟩:∃ x,xs[0]? = some x:=⟨_,List.getElem?_eq_getElem h3⟩
    have hs16:S16 x:=hx x (List.mem_of_getElem? hk5)
    have htk:xs.take (0+1)=xs.take 0++[x]:=by rw [List.take_add_one,hk5]; rfl
    have hZ:ArK kd (arRun kd d (xs.take 0)).2:=arRun_ok hz fun y hy=>hx y (List.mem_of_mem_take hy)
    have hDl:(arRun kd d (xs.take 0)).1.length=0:=by rw [arRun_len,List.length_take]; omega
    have hfin:arRun kd d (xs.take (0+1))=((arRun kd d (xs.take 0)).1++[(arS (tapsAR kd).1 (tapsAR kd).2 (arRun kd d (xs.take 0)).2 x).1],(arS (tapsAR kd).1 (tapsAR kd).2 (arRun kd d (xs.take 0)).2 x).2):=by rw [htk]; exact runL_snoc (arS (tapsAR kd).1 (tapsAR kd).2) (xs.take 0) x d
    have ho:=(arS_ok hZ hs16).2
    obtain ⟨u,hu,hub⟩:=ar_s2 hZ
    generalize hD1:(arRun kd d (xs.take 0)).1=D1 at *
    generalize hD2:(arRun kd d (xs.take 0)).2=D2 at *
    obtain ⟨d0,d1⟩:=D2
    obtain ⟨hT0,hT1⟩:=taps16 kd
    have hd1:iB 300000001 d1:=by
     have:=wb_bd (a:=u*4) (b:=(tapsAR kd).2) (A:=600000000) (by unfold iB at hub ⊢; omega) hT1
     rw [← hu] at this
     exact this
    have ho2:arS (tapsAR kd).1 (tapsAR kd).2 (d0,d1) x=(d0+x*256,(d1+wb ((d0+x*256)*4) (tapsAR kd).1,wb ((d0+x*256)*4) (tapsAR kd).2)):=rfl
    rw [ho2] at ho hfin
    have hx1:IntKind.i64.wrap (IntKind.i64.wrap x*2 ^ min 8 IntKind.i64.bits)=x*256:=by
     have h:=hs16
     unfold S16 at h
     rw [wi64 (n:=x) (by omega),show min 8 IntKind.i64.bits=8 from rfl,show (2:Int) ^ 8=256 from rfl,wi64 (by omega)]
    have ho1:IntKind.i64.wrap (d0+x*256)=d0+x*256:=wi64 (by unfold iB at ho; simp only at ho; omega)
    have ho4:IntKind.i64.wrap ((d0+x*256)*2 ^ min 2 IntKind.i64.bits)=(d0+x*256)*4:=by
     rw [show min 2 IntKind.i64.bits=2 from rfl,show (2:Int) ^ 2=4 from rfl]
     exact wi64 (by unfold iB at ho; simp only at ho; omega)
    have hI:iB 1099511627776 ((d0+x*256)*4):=by unfold iB at ho ⊢; simp only at ho; omega
    have hw0:IntKind.i64.wrap (d1+wb ((d0+x*256)*4) (tapsAR kd).1)=d1+wb ((d0+x*256)*4) (tapsAR kd).1:=by
     have:=wb_bd (a:=(d0+x*256)*4) (A:=600000000) (by unfold iB at ho ⊢; simp only at ho; omega) hT0
     unfold iB at this hd1
     exact wi64 (by omega)
    generalize hO:d0+x*256=o at *
    generalize hwe0:d1+wb (o*4) (tapsAR kd).1=w0' at *
    obtain rfl:D1=[]:=List.length_eq_zero_iff.1 hDl
    conv=>whnf
    refine ⟨⟨Int.natCast_nonneg 0,Int.ofNat_lt.2 h3⟩,?_⟩
    conv=>whnf
    refine ⟨_,hin 0 x hk5,rfl,?_⟩
    conv=>whnf
    conv=>whnf
    refine ⟨by decide,?_⟩
    conv=>whnf
    rw [hx1,hO,ho1]
    conv=>whnf
    dsimp -iota only
    refine ⟨by decide,Int,encI .i64,[],[o],fun _=>rfl,⟨rfl,rfl,rfl⟩,by show 1*8≤_; decide,by show 1≤_; decide,?_⟩
    conv=>whnf
    dsimp -iota only
    rw [ho4]
    refine ⟨by decide,?_⟩
    conv=>whnf
    refine ⟨⟨by decide,Int.ofNat_lt.2 (by omega:0<L)⟩,?_⟩
    conv=>whnf
    refine dropF_get (n:=0) (l:=co.map (ci .i64)) (tc0 hc0) ?_
    conv=>whnf
    refine callV (sMulWBW w0 hI hT0) rfl ?_
    conv=>whnf
    refine ⟨⟨⟨rfl,rfl⟩,⟨rfl,rfl⟩,⟨rfl,rfl⟩,trivial⟩,?_⟩
    conv=>whnf
    dsimp -iota only
    rw [hwe0,hw0]
    refine ⟨by decide,?_⟩
    conv=>whnf
    refine ⟨trivial,?_⟩
    conv=>whnf
    dsimp -iota only
    refine ⟨⟨by decide,Int.ofNat_lt.2 (by omega:1<L)⟩,?_⟩
    conv=>whnf
    refine dropF_get (n:=1) (l:=co.map (ci .i64)) (tc0 hc1) ?_
    conv=>whnf
    refine callV (sMulWBW w0 hI hT1) rfl ?_
    conv=>whnf
    refine ⟨⟨⟨rfl,rfl⟩,trivial⟩,?_⟩
    conv=>whnf
    dsimp -iota only
    refine ⟨by decide,?_⟩
    conv=>whnf
    refine ⟨trivial,?_⟩
    conv=>whnf
    rw [ninc (by omega)]
    have z1:=congrArg Prod.fst hfin
    have z2:=congrArg Prod.snd hfin
    simp only at z1 z2
    refine ⟨⟨0+1,h3⟩,?_,Nat.sub_lt_sub_left h3 (Nat.lt_succ_self _)⟩
    show EmbS _ (feSt ((CV.val (.slice (some a) xs.length c))) xs.length L ys co s (arRun kd d (xs.take (0+1))).2.1 (arRun kd d (xs.take (0+1))).2.2 (outV 6 (arRun kd d (xs.take (0+1))).1.length) (outB (arRun kd d (xs.take (0+1))).1) (0+1)) _
    rw [z1,z2,outV_pos (by simp),outB_pos (by simp)]
    exact ⟨[0,1,2,3,4,5,7],⟨rfl,⟨rfl,rfl,rfl,rfl,lk 8 rfl rfl,congrArg some (tcE co _),rfl,rfl,rfl,rfl,rfl,rfl,rfl,trivial⟩,rfl⟩,rfl,rfl,rfl,rfl,rfl,rfl,trivial⟩
   have h3:xs.length≤0:=lt_f h3
   have hn:xs=[]:=List.length_eq_zero_iff.1 (by omega)
   subst hn
   conv=>whnf
   exact Or.inl ⟨rfl,rfl⟩
  conv=>whnf
  refine ⟨fun h3 => ?_,fun h3 => ?_⟩
  ·have h3:k<xs.length:=lt_t h3
   obtain ⟨x,hk5⟩:∃ x,xs[k]? = some x:=⟨_,List.getElem?_eq_getElem h3⟩
   have hs16:S16 x:=hx x (List.mem_of_getElem? hk5)
   have htk:xs.take (k+1)=xs.take k++[x]:=by rw [List.take_add_one,hk5]; rfl
   have hZ:ArK kd (arRun kd d (xs.take k)).2:=arRun_ok hz fun y hy=>hx y (List.mem_of_mem_take hy)
   have hDl:(arRun kd d (xs.take k)).1.length=k:=by rw [arRun_len,List.length_take]; omega
   have hfin:arRun kd d (xs.take (k+1))=((arRun kd d (xs.take k)).1++[(arS (tapsAR kd).1 (tapsAR kd).2 (arRun kd d (xs.take k)).2 x).1],(arS (tapsAR kd).1 (tapsAR kd).2 (arRun kd d (xs.take k)).2 x).2):=by rw [htk]; exact runL_snoc (arS (tapsAR kd).1 (tapsAR kd).2) (xs.take k) x d
   have ho:=(arS_ok hZ hs16).2
   obtain ⟨u,hu,hub⟩:=ar_s2 hZ
   generalize hD1:(arRun kd d (xs.take k)).1=D1 at *
   generalize hD2:(arRun kd d (xs.take k)).2=D2 at *
   obtain ⟨d0,d1⟩:=D2
   obtain ⟨hT0,hT1⟩:=taps16 kd
   have hd1:iB 300000001 d1:=by
    have:=wb_bd (a:=u*4) (b:=(tapsAR kd).2) (A:=600000000) (by unfold iB at hub ⊢; omega) hT1
    rw [← hu] at this
    exact this
   have ho2:arS (tapsAR kd).1 (tapsAR kd).2 (d0,d1) x=(d0+x*256,(d1+wb ((d0+x*256)*4) (tapsAR kd).1,wb ((d0+x*256)*4) (tapsAR kd).2)):=rfl
   rw [ho2] at ho hfin
   have hx1:IntKind.i64.wrap (IntKind.i64.wrap x*2 ^ min 8 IntKind.i64.bits)=x*256:=by
    have h:=hs16
    unfold S16 at h
    rw [wi64 (n:=x) (by omega),show min 8 IntKind.i64.bits=8 from rfl,show (2:Int) ^ 8=256 from rfl,wi64 (by omega)]
   have ho1:IntKind.i64.wrap (d0+x*256)=d0+x*256:=wi64 (by unfold iB at ho; simp only at ho; omega)
   have ho4:IntKind.i64.wrap ((d0+x*256)*2 ^ min 2 IntKind.i64.bits)=(d0+x*256)*4:=by
    rw [show min 2 IntKind.i64.bits=2 from rfl,show (2:Int) ^ 2=4 from rfl]
    exact wi64 (by unfold iB at ho; simp only at ho; omega)
   have hI:iB 1099511627776 ((d0+x*256)*4):=by unfold iB at ho ⊢; simp only at ho; omega
   have hw0:IntKind.i64.wrap (d1+wb ((d0+x*256)*4) (tapsAR kd).1)=d1+wb ((d0+x*256)*4) (tapsAR kd).1:=by
    have:=wb_bd (a:=(d0+x*256)*4) (A:=600000000) (by unfold iB at ho ⊢; simp only at ho; omega) hT0
    unfold iB at this hd1
    exact wi64 (by omega)
   generalize hO:d0+x*256=o at *
   generalize hwe0:d1+wb (o*4) (tapsAR kd).1=w0' at *
   have hne:D1≠[]:=by intro h; rw [h] at hDl; simp at hDl; omega
   rw [outV_pos (show 0<D1.length by omega),outB_pos hne]
   conv=>whnf
   refine ⟨⟨Int.natCast_nonneg k,Int.ofNat_lt.2 h3⟩,?_⟩
   conv=>whnf
   refine ⟨_,hin k x hk5,rfl,?_⟩
   conv=>whnf
   conv=>whnf
   refine ⟨by decide,?_⟩
   conv=>whnf
   rw [hx1,hO,ho1]
   conv=>whnf
   dsimp -iota only
   refine ⟨rfl,[o],⟨rfl,rfl,rfl⟩,by simp; omega,by simp; omega,?_⟩
   conv=>whnf
   dsimp -iota only
   rw [ho4]
   refine ⟨by decide,?_⟩
   conv=>whnf
   refine ⟨⟨by decide,Int.ofNat_lt.2 (by omega:0<L)⟩,?_⟩
   conv=>whnf
   refine dropF_get (n:=0) (l:=co.map (ci .i64)) (tc0 hc0) ?_
   conv=>whnf
   refine callV (sMulWBW w0 hI hT0) rfl ?_
   conv=>whnf
   refine ⟨⟨⟨rfl,rfl⟩,⟨rfl,rfl⟩,⟨rfl,rfl⟩,trivial⟩,?_⟩
   conv=>whnf
   dsimp -iota only
   rw [hwe0,hw0]
   refine ⟨by decide,?_⟩
   conv=>whnf
   refine ⟨trivial,?_⟩
   conv=>whnf
   dsimp -iota only
   refine ⟨⟨by decide,Int.ofNat_lt.2 (by omega:1<L)⟩,?_⟩
   conv=>whnf
   refine dropF_get (n:=1) (l:=co.map (ci .i64)) (tc0 hc1) ?_
   conv=>whnf
   refine callV (sMulWBW w0 hI hT1) rfl ?_
   conv=>whnf
   refine ⟨⟨⟨rfl,rfl⟩,trivial⟩,?_⟩
   conv=>whnf
   dsimp -iota only
   refine ⟨by decide,?_⟩
   conv=>whnf
   refine ⟨trivial,?_⟩
   conv=>whnf
   rw [ninc (by omega)]
   have z1:=congrArg Prod.fst hfin
   have z2:=congrArg Prod.snd hfin
   simp only at z1 z2
   refine ⟨⟨k+1,h3⟩,?_,Nat.sub_lt_sub_left h3 (Nat.lt_succ_self _)⟩
   show EmbS _ (feSt ((CV.val (.slice (some a) xs.length c))) xs.length L ys co s (arRun kd d (xs.take (k+1))).2.1 (arRun kd d (xs.take (k+1))).2.2 (outV 6 (arRun kd d (xs.take (k+1))).1.length) (outB (arRun kd d (xs.take (k+1))).1) (k+1)) _
   rw [z1,z2,outV_pos (by simp),outB_pos (by simp)]
   exact ⟨[0,1,2,3,4,5,8],⟨rfl,⟨rfl,rfl,rfl,rfl,lk 9 rfl rfl,congrArg some (tcE co _),rfl,rfl,rfl,rfl,rfl,rfl,rfl,trivial⟩,rfl⟩,rfl,rfl,rfl,rfl,rfl,rfl,trivial⟩
  have h3:xs.length≤k:=lt_f h3
  have hne:0<(arRun kd d (xs.take k)).1.length:=by rw [arRun_len,List.length_take]; omega
  rw [outV_pos hne,outB_pos (List.ne_nil_of_length_pos hne)]
  conv=>whnf
  rw [List.take_of_length_le h3] at hne ⊢
  rw [outV_pos hne,outB_pos (List.ne_nil_of_length_pos hne)]
  exact Or.inl ⟨rfl,rfl⟩
 subst hin
 refine callsA_of_ev c61_ ?_
 conv=>whnf
 refine Or.inl ?_
 conv=>whnf
 refine ⟨Unit,fun _=>⟨[(5,.o (.c nilC)),(10,.o (.c (.val (.int .i64 ((0:Nat):Int))))),(11,.o (.c (.val (.int .i64 ((0:Nat):Int)))))],[rB (zA d) s,sB ys,.dead,tcB co,boxR,boxT L]⟩,fun _=>0,⟨(),[0,1,2,3,4,5],⟨rfl,⟨rfl,rfl,rfl,rfl,lk 6 rfl rfl,congrArg some (tcE co _),rfl,rfl,rfl,rfl,rfl,trivial⟩,rfl⟩,rfl,rfl,rfl,trivial⟩,fun _=>?_⟩
 conv=>whnf
 refine ⟨fun g=>absurd g (by decide),fun _=>?_⟩
 conv=>whnf
 exact Or.inl ⟨rfl,rfl⟩
def f12F:List Int:=[189,-600,617,30567,117,-159,-1070,29704,52,221,-2392,28276,-4,529,-3350,26341,-48,758,-3956,23973,-80,905,-4235,21254,-99,972,-4222,18278,-107,967,-3957,15143,-103,896,-3487,11950,-91,773,-2865,8798,-71,611,-2143,5784,-46,425,-1375,2996]
theorem f12F_get:∀ t:Nat,t<12 → ∀ i:Nat,i<4→f12F[t*4+i]? = some (f12 t i):=by decide
def f12B:Blk := .cells 110 (f12F.map (ci .i64))
def sJ (b:List Int) (t:Nat):Nat→Int
 | 0=>0
 | j+1=>sJ b t j+(b.getD j 0*f12 t j+b.getD (7 - j) 0*f12 (11 - t) j)
theorem sJ_end (b:List Int) (t:Nat) {p:Int} (hp:(p*12 / 65536).toNat=t):sJ b t 4=at12 b p:=by
 unfold at12
 rw [hp]
 show 0+(b.getD 0 0*f12 t 0+b.getD 7 0*f12 (11 - t) 0)+(b.getD 1 0*f12 t 1+b.getD 6 0*f12 (11 - t) 1)+(b.getD 2 0*f12 t 2+b.getD 5 0*f12 (11 - t) 2)+(b.getD 3 0*f12 t 3+b.getD 4 0*f12 (11 - t) 3)=b.getD 0 0*f12 t 0+b.getD 1 0*f12 t 1+b.getD 2 0*f12 t 2+b.getD 3 0*f12 t 3+b.getD 4 0*f12 (11 - t) 3+b.getD 5 0*f12 (11 - t) 2+b.getD 6 0*f12 (11 - t) 1+b.getD 7 0*f12 (11 - t) 0
 omega
theorem sJ_bd {b:List Int} {t:Nat} (hb:∀ i,S16 (b.getD i 0)) (ht:t<12):∀ j:Nat,j≤4→iB (2147483648*j) (sJ b t j)
 | 0,_=>by unfold sJ iB; omega
 | j+1,h=>by
  have ih:=sJ_bd hb ht j (by omega)
  have e1:=mul_bd (x:=b.getD j 0) (y:=f12 t j) (X:=32768) (Y:=32768) (by have:=hb j; unfold S16 at this; unfold iB; omega) (by have:=f12S t ht j (by omega); unfold iB; omega)
  have e2:=mul_bd (x:=b.getD (7 - j) 0) (y:=f12 (11 - t) j) (X:=32768) (Y:=32768) (by have:=hb (7 - j); unfold S16 at this; unfold iB; omega) (by have:=f12S (11 - t) (by omega) j (by omega); unfold iB; omega)
  unfold iB at *
  unfold sJ
  omega
def r1St (o n c:Nat) (b buf:List Int) (t:Nat) (j:Nat):S :=
 ⟨[(0,.o (.c (.sli 0 1 o n c))),(2,.o (.c (.ptr 1 0))),(6,.o (.c (.val (.int .i64 t)))),(7,.o (.c (.val (.int .i64 (sJ b t j))))),(12,.o (.c (.val (.int .i64 j))))],[nB buf,f12B]⟩
theorem f12E (σ:List Nat):f12B=f12B.ren σ := by
 show Blk.cells _ _=Blk.cells _ ((f12F.map (ci .i64)).map (CV.ren σ))
 rw [map_ci]
theorem sRun1W (w0:World) {o n c p:Nat} {buf:List Int} (hp:p<65536) (hn:8≤n) (hb:o+8≤buf.length) (hbS:∀ x∈buf,S16 x) :
 CallsA Tryz.prog w0 59 [.c (.sli 0 1 o n c),.c (.val (.int .i64 p)),.c (.ptr 1 0)] [nB buf,f12B] fun r H=>r = .o (.c (.val (.int .i64 (at12 (buf.drop o) p))))∧H=[nB buf,f12B]:=by
 obtain ⟨t,hte⟩:∃ t,t=p*12 / 65536:=⟨_,rfl⟩
 have ht:t<12:=by omega
 have hbD:∀ i,S16 ((buf.drop o).getD i 0):=getD_S16 fun x hx=>hbS x (List.mem_of_mem_drop hx)
 have hg:∀ i,i<8→buf[o+i]? = some ((buf.drop o).getD i 0):=by
  intro i hi
  rw [List.getD_eq_getElem?_getD,List.getElem?_drop,List.getElem?_eq_getElem (by omega)]
  rfl
 have hbd:=fun j hj=>sJ_bd hbD ht j hj
 have hend:=sJ_end (buf.drop o) t (p:=p) (by omega)
 generalize buf.drop o=b at *
 have h12:(IntKind.i64.wrap ((p:Int)*((12:Nat):Int))).fdiv (2 ^ min 16 IntKind.i64.bits)=(t:Int):=by
  rw [wi64 (by omega),show min 16 IntKind.i64.bits=16 from rfl,show (2:Int) ^ 16=65536 from rfl,Int.fdiv_eq_ediv_of_nonneg _ (by omega)]
  omega
 refine callsA_of_ev c59_ ?_
 conv=>whnf
 rw [h12]
 refine Or.inl ?_
 conv=>whnf
 refine ⟨{j:Nat // j≤4},fun ⟨j,_⟩=>r1St o n c b buf t j,fun j=>4 - j.1,⟨⟨0,by omega⟩,[0,1],⟨rfl,⟨rfl,rfl,congrArg some (f12E _),rfl,trivial⟩,rfl⟩,rfl,rfl,rfl,rfl,rfl,trivial⟩,fun ⟨j,hj⟩ => ?_⟩
 conv=>whnf
 refine ⟨fun h3 => ?_,fun h3 => ?_⟩
 ·have h3:j<4:=lt_t (b:=4) h3
  have h7:IntKind.i64.wrap (((7:Nat):Int) - (j:Int))=((7 - j:Nat):Int):=by rw [wi64 (by omega)]; omega
  have h11:IntKind.i64.wrap (((11:Nat):Int) - (t:Int))=((11 - t:Nat):Int):=by rw [wi64 (by omega)]; omega
  have e1:=mul_bd (x:=b.getD j 0) (y:=f12 t j) (X:=32768) (Y:=32768) (by have:=hbD j; unfold S16 at this; unfold iB; omega) (by have:=f12S t ht j (by omega); unfold iB; omega)
  have e2:=mul_bd (x:=b.getD (7 - j) 0) (y:=f12 (11 - t) j) (X:=32768) (Y:=32768) (by have:=hbD (7 - j); unfold S16 at this; unfold iB; omega) (by have:=f12S (11 - t) (by omega) j (by omega); unfold iB; omega)
  have e3:=hbd j (by omega)
  have hf:∀ t:Nat,t<12 → ∀ j:Nat,j<4→(f12F.map (ci .i64))[((t:Int)).toNat*4+(0+((j:Int)).toNat)]? = some (ci .i64 (f12 t j)):=by
   intro t ht j hj
   rw [Nat.zero_add,List.getElem?_map]
   show (f12F[t*4+j]?).map _=_
   rw [f12F_get t ht j hj]
   rfl
  have hs:sJ b t (j+1)=sJ b t j+(b.getD j 0*f12 t j+b.getD (7 - j) 0*f12 (11 - t) j):=rfl
  unfold iB at e1 e2 e3
  have w1:IntKind.i64.wrap (b.getD j 0*f12 t j)=b.getD j 0*f12 t j:=wi64 (by omega)
  have w2:IntKind.i64.wrap (b.getD (7 - j) 0*f12 (11 - t) j)=b.getD (7 - j) 0*f12 (11 - t) j:=wi64 (by omega)
  have w3:IntKind.i64.wrap (b.getD j 0*f12 t j+b.getD (7 - j) 0*f12 (11 - t) j)=b.getD j 0*f12 t j+b.getD (7 - j) 0*f12 (11 - t) j:=wi64 (by omega)
  have w4:IntKind.i64.wrap (sJ b t j+(b.getD j 0*f12 t j+b.getD (7 - j) 0*f12 (11 - t) j))=sJ b t (j+1):=by rw [hs]; exact wi64 (by omega)
  conv=>whnf
  refine ⟨⟨Int.natCast_nonneg j,Int.ofNat_lt.2 (by omega:j<n)⟩,?_⟩
  conv=>whnf
  refine ⟨_,hg j (by omega),?_⟩
  conv=>whnf
  refine ⟨⟨Int.natCast_nonneg t,Int.ofNat_lt.2 ht⟩,?_⟩
  conv=>whnf
  refine ⟨⟨Int.natCast_nonneg j,Int.ofNat_lt.2 h3⟩,?_⟩
  conv=>whnf
  refine dropF_get (hf t ht j h3) ?_
  conv=>whnf
  rw [w1,h7]
  refine ⟨⟨Int.natCast_nonneg _,Int.ofNat_lt.2 (by omega:7 - j<n)⟩,?_⟩
  conv=>whnf
  refine ⟨_,hg (7 - j) (by omega),?_⟩
  conv=>whnf
  rw [h11]
  refine ⟨⟨Int.natCast_nonneg _,Int.ofNat_lt.2 (by omega:11 - t<12)⟩,?_⟩
  conv=>whnf
  refine ⟨⟨Int.natCast_nonneg j,Int.ofNat_lt.2 h3⟩,?_⟩
  conv=>whnf
  refine dropF_get (hf (11 - t) (by omega) j h3) ?_
  conv=>whnf
  dsimp -iota only
  rw [w2,w3,w4,ninc (by omega)]
  exact ⟨⟨j+1,h3⟩,⟨[0,1],⟨rfl,⟨rfl,rfl,congrArg some (f12E _),rfl,trivial⟩,rfl⟩,rfl,rfl,rfl,rfl,rfl,trivial⟩,Nat.sub_lt_sub_left h3 (Nat.lt_succ_self j)⟩
 have h3:4≤j:=lt_f (b:=4) h3
 have h4:j=4:=by omega
 subst h4
 conv=>whnf
 refine Or.inl ⟨?_,rfl⟩
 rw [hend]
 rfl
def boxP (p:Nat):Blk := .cells 3 [ci .i64 p]
def boxF (L:Nat):Blk := .cells 24 [.sli 3 1 2 (L - 2) (L - 2)]
def sE (co b:List Int):Nat→Int
 | 0=>0
 | j+1=>sE co b j+wb (b.getD j 0+b.getD (23 - j) 0) (co.getD (2+j) 0)
def sF (co b:List Int) (t u:Nat):Nat→Int
 | 0=>0
 | j+1=>sF co b t u j+(wb (b.getD j 0) (co.getD (2+9*t+j) 0)+wb (b.getD (17 - j) 0) (co.getD (2+9*u+j) 0))
theorem sE_end (co b:List Int) (p:Int):sE co b 12=at24 co b p:=by
 unfold at24
 simp only [sE,Nat.sub_zero,Nat.reduceSub]
 omega
theorem sF_end (co b:List Int) {parts t:Nat} {p:Int} (hp:(p*parts / 65536).toNat=t):sF co b t (parts - 1 - t) 9=at18 parts co b p:=by
 unfold at18
 simp only [hp,sF,Nat.sub_zero,Nat.reduceSub]
 omega
theorem sE_bd {co b:List Int} (hb:∀ i,iB 150000000 (b.getD i 0)) (hc:∀ i,S16 (co.getD i 0)):∀ j:Nat,iB (150000001*j) (sE co b j)
 | 0=>by unfold sE iB; omega
 | j+1=>by
  have ih:=sE_bd hb hc j
  have e:=wb_bd2 (hb j) (hb (23 - j)) (hc (2+j))
  unfold iB at *
  unfold sE
  omega
theorem sF_bd {co b:List Int} {t u:Nat} (hb:∀ i,iB 150000000 (b.getD i 0)) (hc:∀ i,S16 (co.getD i 0)):∀ j:Nat,iB (150000002*j) (sF co b t u j)
 | 0=>by unfold sF iB; omega
 | j+1=>by
  have ih:=sF_bd (t:=t) (u:=u) hb hc j
  have e:=wb_bd' (hb j) (hc (2+9*t+j))
  have e2:=wb_bd' (hb (17 - j)) (hc (2+9*u+j))
  unfold iB at *
  unfold sF
  omega
theorem tcg {co:List Int} {i n:Nat} {x:Int} (h:co[i]? = some x) (hn:n=i):(co.map (ci .i64))[n]? = some (ci .i64 x):=by subst hn; exact tc0 h
theorem sRun3W24 (w0:World) {o n c p L:Nat} {buf co:List Int} (hn:24≤n) (hb:o+24≤buf.length) (hbS:∀ x∈buf,iB 150000000 x) (hco:∀ x∈co,S16 x) (hL:L=14) (hcl:co.length=L) :
 CallsA Tryz.prog w0 63 [.c (.sli 0 1 o n c),.c (.val (.int .i64 p)),.c (.ptr 1 0),.c (.ptr 2 0)] [nB buf,boxP 1,boxF L,tcB co] fun r H=>r = .o (.c (.val (.int .i64 (at24 co (buf.drop o) p))))∧H=[nB buf,boxP 1,boxF L,tcB co]:=by
 have hbD:∀ i,iB 150000000 ((buf.drop o).getD i 0):=getD_iB (by omega) fun x hx=>hbS x (List.mem_of_mem_drop hx)
 have hcS:∀ i,S16 (co.getD i 0):=getD_S16 hco
 have hg:∀ i,i<24→buf[o+i]? = some ((buf.drop o).getD i 0):=by
  intro i hi
  rw [List.getD_eq_getElem?_getD,List.getElem?_drop,List.getElem?_eq_getElem (by omega)]
  rfl
 have hc:∀ i,i<L→co[i]? = some (co.getD i 0):=by
  intro i hi
  rw [List.getD_eq_getElem?_getD,List.getElem?_eq_getElem (by omega)]
  rfl
 have hbd:=fun j=>sE_bd hbD hcS j
 have hend:=sE_end co (buf.drop o) p
 generalize buf.drop o=b at *
 refine callsA_of_ev c63_ ?_
 conv=>whnf
 refine Or.inl ?_
 conv=>whnf
 refine ⟨fun _=>?_,fun g=>absurd g (by decide)⟩
 conv=>whnf
 refine Or.inl ?_
 conv=>whnf
 refine ⟨{j:Nat // j≤12},fun ⟨j,_⟩=>⟨[(0,.o (.c (.sli 0 1 o n c))),(3,.o (.c (.ptr 2 0))),(7,.o (.c (.val (.int .i64 (sE co b j))))),(13,.o (.c (.val (.int .i64 j))))],[nB buf,boxP 1,boxF L,tcB co]⟩,fun j=>12 - j.1,⟨⟨0,by omega⟩,[0,1,2,3],⟨rfl,⟨rfl,rfl,rfl,rfl,rfl,rfl,congrArg some (tcE co _),rfl,trivial⟩,rfl⟩,rfl,rfl,rfl,rfl,trivial⟩,fun ⟨j,hj⟩ => ?_⟩
 conv=>whnf
 refine ⟨fun h3 => ?_,fun h3 => ?_⟩
 ·have h3:j<12:=lt_t (b:=12) h3
  have h23:IntKind.i64.wrap (((23:Nat):Int) - (j:Int))=((23 - j:Nat):Int):=by rw [wi64 (by omega)]; omega
  have e1:=hbD j
  have e2:=hbD (23 - j)
  have e3:=hbd j
  have e4:=wb_bd2 e1 e2 (hcS (2+j))
  have hs:sE co b (j+1)=sE co b j+wb (b.getD j 0+b.getD (23 - j) 0) (co.getD (2+j) 0):=rfl
  unfold iB at e1 e2 e3 e4
  have w1:IntKind.i64.wrap (b.getD j 0+b.getD (23 - j) 0)=b.getD j 0+b.getD (23 - j) 0:=wi64 (by omega)
  have w2:IntKind.i64.wrap (sE co b j+wb (b.getD j 0+b.getD (23 - j) 0) (co.getD (2+j) 0))=sE co b (j+1):=by rw [hs]; exact wi64 (by omega)
  conv=>whnf
  refine ⟨⟨Int.natCast_nonneg j,Int.ofNat_lt.2 (by omega:j<n)⟩,?_⟩
  conv=>whnf
  refine ⟨_,hg j (by omega),?_⟩
  conv=>whnf
  rw [h23]
  refine ⟨⟨Int.natCast_nonneg _,Int.ofNat_lt.2 (by omega:23 - j<n)⟩,?_⟩
  conv=>whnf
  refine ⟨_,hg (23 - j) (by omega),?_⟩
  conv=>whnf
  rw [w1]
  refine ⟨⟨Int.natCast_nonneg j,Int.ofNat_lt.2 (by omega:j<L - 2)⟩,?_⟩
  conv=>whnf
  refine dropF_get (tcg (hc (2+j) (by omega)) (by omega)) ?_
  conv=>whnf
  refine callV (sMulWBW w0 (a:=b.getD j 0+b.getD (23 - j) 0) (by unfold iB; omega) (hcS (2+j))) rfl ?_
  conv=>whnf
  refine ⟨trivial,?_⟩
  conv=>whnf
  dsimp -iota only
  rw [w2,ninc (by omega)]
  exact ⟨⟨j+1,h3⟩,⟨[0,1,2,3],⟨rfl,⟨rfl,rfl,rfl,rfl,rfl,rfl,congrArg some (tcE co _),rfl,trivial⟩,rfl⟩,rfl,rfl,rfl,rfl,trivial⟩,Nat.sub_lt_sub_left h3 (Nat.lt_succ_self j)⟩
 have h3:12≤j:=lt_f (b:=12) h3
 have h4:j=12:=by omega
 subst h4
 conv=>whnf
 refine Or.inl ⟨?_,rfl⟩
 rw [hend]
 rfl
theorem sRun3W18 (w0:World) {o n c p L parts:Nat} {buf co:List Int} (hp:p<65536) (hn:18≤n) (hb:o+18≤buf.length) (hbS:∀ x∈buf,iB 150000000 x) (hco:∀ x∈co,S16 x) (hpp:parts=2∨parts=3) (hL:L=2+9*parts) (hcl:co.length=L) :
 CallsA Tryz.prog w0 63 [.c (.sli 0 1 o n c),.c (.val (.int .i64 p)),.c (.ptr 1 0),.c (.ptr 2 0)] [nB buf,boxP parts,boxF L,tcB co] fun r H=>r = .o (.c (.val (.int .i64 (at18 parts co (buf.drop o) p))))∧H=[nB buf,boxP parts,boxF L,tcB co]:=by
 have hbD:∀ i,iB 150000000 ((buf.drop o).getD i 0):=getD_iB (by omega) fun x hx=>hbS x (List.mem_of_mem_drop hx)
 have hcS:∀ i,S16 (co.getD i 0):=getD_S16 hco
 have hg:∀ i,i<18→buf[o+i]? = some ((buf.drop o).getD i 0):=by
  intro i hi
  rw [List.getD_eq_getElem?_getD,List.getElem?_drop,List.getElem?_eq_getElem (by omega)]
  rfl
 have hc:∀ i,i<L→co[i]? = some (co.getD i 0):=by
  intro i hi
  rw [List.getD_eq_getElem?_getD,List.getElem?_eq_getElem (by omega)]
  rfl
 obtain ⟨t,hte⟩:∃ t,t=p*parts / 65536:=⟨_,rfl⟩
 have ht:t<parts:=by rcases hpp with rfl | rfl <;> omega
 have hend:=sF_end co (buf.drop o) (parts:=parts) (t:=t) (p:=(p:Int)) (by rcases hpp with rfl | rfl <;> omega)
 obtain ⟨u,hue⟩:∃ u,u=parts - 1 - t:=⟨_,rfl⟩
 rw [← hue] at hend
 have hbd:=fun j=>sF_bd (t:=t) (u:=u) hbD hcS j
 generalize buf.drop o=b at *
 have ht9:9*t+9≤L - 2:=by omega
 have hu9:9*u+9≤L - 2:=by omega
 have hpt:(IntKind.i64.wrap ((p:Int)*(parts:Int))).fdiv (2 ^ min 16 IntKind.i64.bits)=(t:Int):=by
  rw [wi64 (by rcases hpp with rfl | rfl <;> omega),show min 16 IntKind.i64.bits=16 from rfl,show (2:Int) ^ 16=65536 from rfl,Int.fdiv_eq_ediv_of_nonneg _ (by omega)]
  rcases hpp with rfl | rfl <;> omega
 refine callsA_of_ev c63_ ?_
 conv=>whnf
 refine Or.inl ?_
 conv=>whnf
 refine ⟨fun g=>absurd (eq_of_beq g) (by omega),fun _=>?_⟩
 conv=>whnf
 rw [hpt]
 refine Or.inl ?_
 conv=>whnf
 refine ⟨{j:Nat // j≤9},fun ⟨j,_⟩=>⟨[(0,.o (.c (.sli 0 1 o n c))),(2,.o (.c (.ptr 1 0))),(3,.o (.c (.ptr 2 0))),(7,.o (.c (.val (.int .i64 (sF co b t u j))))),(9,.o (.c (.val (.int .i64 t)))),(39,.o (.c (.val (.int .i64 j))))],[nB buf,boxP parts,boxF L,tcB co]⟩,fun j=>9 - j.1,⟨⟨0,by omega⟩,[0,1,2,3],⟨rfl,⟨rfl,rfl,rfl,rfl,rfl,rfl,congrArg some (tcE co _),rfl,trivial⟩,rfl⟩,rfl,rfl,rfl,rfl,rfl,rfl,trivial⟩,fun ⟨j,hj⟩ => ?_⟩
 conv=>whnf
 refine ⟨fun h3 => ?_,fun h3 => ?_⟩
 ·have h3:j<9:=lt_t (b:=9) h3
  have h17:IntKind.i64.wrap (((17:Nat):Int) - (j:Int))=((17 - j:Nat):Int):=by rw [wi64 (by omega)]; omega
  have ha:IntKind.i64.wrap (IntKind.i64.wrap (((9:Nat):Int)*(t:Int))+(j:Int))=((9*t+j:Nat):Int):=by rw [wi64 (n:=((9:Nat):Int)*(t:Int)) (by omega),wi64 (by omega)]; omega
  have hb2:IntKind.i64.wrap (IntKind.i64.wrap (((9:Nat):Int)*IntKind.i64.wrap (IntKind.i64.wrap ((parts:Int) - ((1:Nat):Int)) - (t:Int)))+(j:Int))=((9*u+j:Nat):Int):=by
   rw [wi64 (n:=(parts:Int) - ((1:Nat):Int)) (by omega),wi64 (n:=(parts:Int) - ((1:Nat):Int) - (t:Int)) (by omega),wi64 (n:=((9:Nat):Int)*((parts:Int) - ((1:Nat):Int) - (t:Int))) (by omega),wi64 (by omega)]
   omega
  have e1:=hbD j
  have e2:=hbD (17 - j)
  have e3:=hbd j
  have e4:=wb_bd' e1 (hcS (2+9*t+j))
  have e5:=wb_bd' e2 (hcS (2+9*u+j))
  have hs:sF co b t u (j+1)=sF co b t u j+(wb (b.getD j 0) (co.getD (2+9*t+j) 0)+wb (b.getD (17 - j) 0) (co.getD (2+9*u+j) 0)):=rfl
  unfold iB at e1 e2 e3 e4 e5
  have w1:IntKind.i64.wrap (wb (b.getD j 0) (co.getD (2+9*t+j) 0)+wb (b.getD (17 - j) 0) (co.getD (2+9*u+j) 0))=wb (b.getD j 0) (co.getD (2+9*t+j) 0)+wb (b.getD (17 - j) 0) (co.getD (2+9*u+j) 0):=wi64 (by omega)
  have w2:IntKind.i64.wrap (sF co b t u j+(wb (b.getD j 0) (co.getD (2+9*t+j) 0)+wb (b.getD (17 - j) 0) (co.getD (2+9*u+j) 0)))=sF co b t u (j+1):=by rw [hs]; exact wi64 (by omega)
  have hcc:(co.map (ci .i64))[(2+(((9*u+j:Nat):Int)).toNat)*1+0]? = some (ci .i64 (co.getD (2+9*u+j) 0)):=tcg (hc (2+9*u+j) (by omega)) (by omega)
  conv=>whnf
  refine ⟨⟨Int.natCast_nonneg j,Int.ofNat_lt.2 (by omega:j<n)⟩,?_⟩
  conv=>whnf
  refine ⟨_,hg j (by omega),?_⟩
  conv=>whnf
  rw [ha]
  refine ⟨⟨Int.natCast_nonneg _,Int.ofNat_lt.2 (by omega:9*t+j<L - 2)⟩,?_⟩
  conv=>whnf
  refine dropF_get (tcg (hc (2+9*t+j) (by omega)) (by omega)) ?_
  conv=>whnf
  rw [h17]
  refine ⟨⟨Int.natCast_nonneg _,Int.ofNat_lt.2 (by omega:17 - j<n)⟩,?_⟩
  conv=>whnf
  refine ⟨_,hg (17 - j) (by omega),?_⟩
  conv=>whnf
  rw [hb2]
  refine ⟨⟨Int.natCast_nonneg _,Int.ofNat_lt.2 (by omega:9*u+j<L - 2)⟩,?_⟩
  conv=>whnf
  refine dropF_get hcc ?_
  conv=>whnf
  refine callV (sMulWBW w0 (a:=b.getD j 0) (by unfold iB; omega) (hcS (2+9*t+j))) rfl ?_
  conv=>whnf
  refine ⟨⟨dropF_get hcc ⟨rfl,rfl⟩,⟨rfl,rfl⟩,⟨rfl,rfl⟩,⟨_,hg (17 - j) (by omega),rfl,rfl⟩,trivial⟩,?_⟩
  conv=>whnf
  refine callV (sMulWBW w0 (a:=b.getD (17 - j) 0) (by unfold iB; omega) (hcS (2+9*u+j))) rfl ?_
  conv=>whnf
  refine ⟨trivial,?_⟩
  conv=>whnf
  dsimp -iota only
  rw [w1,w2,ninc (by omega)]
  exact ⟨⟨j+1,h3⟩,⟨[0,1,2,3],⟨rfl,⟨rfl,rfl,rfl,rfl,rfl,rfl,congrArg some (tcE co _),rfl,trivial⟩,rfl⟩,rfl,rfl,rfl,rfl,rfl,rfl,trivial⟩,Nat.sub_lt_sub_left h3 (Nat.lt_succ_self j)⟩
 have h3:9≤j:=lt_f (b:=9) h3
 have h4:j=9:=by omega
 subst h4
 conv=>whnf
 refine Or.inl ⟨?_,rfl⟩
 rw [hend]
 rfl
theorem fir12W (w0:World):CallsA Tryz.prog w0 57 [] [] fun r H=>r = .o (.a (f12F.map (ci .i64)))∧H=[]:=by
 refine callsA_of_ev c57_ ?_
 conv=>whnf
 refine Or.inl ?_
 conv=>whnf
 exact Or.inr ⟨[],.o (.a (f12F.map (ci .i64))),[],⟨rfl,trivial,rfl⟩,rfl,rfl,rfl⟩
def co34:List Int:=[-20694,-13867,-49,64,17,-157,353,-496,163,11047,22205,-39,6,91,-170,186,23,-896,6336,19928,-19,-36,102,-89,-24,328,-951,2568,15909]
def co23:List Int:=[-14457,-14019,64,128,-122,36,310,-768,584,9267,17733,12,128,18,-142,288,-117,-865,4123,14459]
def co12:List Int:=[616,-14323,-10,39,58,-46,-84,120,184,-315,-541,1284,5380,9024]
def coK (kd:Nat):List Int:=if kd=34 then co34 else if kd=23 then co23 else co12
theorem downTapsW (w0:World) {kd:Nat} (hk:kd=34∨kd=23∨kd=12):CallsA Tryz.prog w0 60 [.c (.val (.int .i64 kd))] [] fun r H=>r = .o (.c (.sli 0 1 0 (coK kd).length (coK kd).length))∧H=[tcB (coK kd)]:=by
 rcases hk with rfl | rfl | rfl
 ·refine callsA_of_ev c60_ ?_
  conv=>whnf
  refine Or.inl ?_
  conv=>whnf
  refine ⟨fun _=>?_,fun g=>absurd g (by decide)⟩
  conv=>whnf
  exact Or.inl ⟨rfl,rfl⟩
 ·refine callsA_of_ev c60_ ?_
  conv=>whnf
  refine Or.inl ?_
  conv=>whnf
  refine ⟨fun g=>absurd g (by decide),fun _=>?_⟩
  conv=>whnf
  refine ⟨fun _=>?_,fun g=>absurd g (by decide)⟩
  conv=>whnf
  exact Or.inl ⟨rfl,rfl⟩
 refine callsA_of_ev c60_ ?_
 conv=>whnf
 refine Or.inl ?_
 conv=>whnf
 refine ⟨fun g=>absurd g (by decide),fun _=>?_⟩
 conv=>whnf
 refine ⟨fun g=>absurd g (by decide),fun _=>?_⟩
 conv=>whnf
 exact Or.inl ⟨rfl,rfl⟩
theorem coK_S16 (kd:Nat):∀ x∈coK kd,S16 x:=by
 unfold coK S16
 split
 ·decide
 split <;> decide
theorem coK_taps (kd:Nat):(coK kd)[0]? = some (tapsAR kd).1∧(coK kd)[1]? = some (tapsAR kd).2:=by
 unfold coK tapsAR
 split
 ·exact ⟨rfl,rfl⟩
 split <;> exact ⟨rfl,rfl⟩
end Go.Proofs.YtbpogapddpacoaaGreatDoor
end
