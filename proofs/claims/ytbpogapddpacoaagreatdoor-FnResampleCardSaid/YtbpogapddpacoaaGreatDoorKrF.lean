/- Joined: ReW, ReX, ReY, RfA, RfB, RfC, RhA, RfD, RfE, RhB, RhC, RhD, RhE, RgA, RgB. -/
import Derived.Test.YtbpogapddpacoaaGreatDoorKrE
section
namespace Go.Proofs.YtbpogapddpacoaaGreatDoor
open Go Go.Vc
set_option maxRecDepth 100000
set_option maxHeartbeats 8000000
def InS (w0:World) (iv:CV) (ys xs:List Int):Prop:=(∃ o c,iv = .sli 1 1 o xs.length c∧xs.length≤c ∧ ∀ k x,xs[k]? = some x→ys[o+k]? = some x)∨(∃ (a:Addr) (c:Nat),iv = .val (.slice (some a) xs.length c)∧xs.length≤c ∧ ∀ k x,xs[k]? = some x→w0.cell? ((a.add (k*1)).add 0)=some (.int .i16 x))
theorem tkd {l:List Int} {m k:Nat} {x:Int} (h:(l.take m)[k]? = some x):l[k]? = some x:=by
 rw [List.getElem?_take] at h
 split at h
 ·exact h
 cases h
theorem InS.ren {w0:World} {iv:CV} {ys xs:List Int} (h:InS w0 iv ys xs):some (AV.o (.c iv))=some ((AV.o (.c iv)).ren [0,1,2,3]):=by
 rcases h with ⟨o,c,rfl,_⟩ | ⟨a,c,rfl,_⟩ <;> rfl
structure BUx (w0:World) (ys:List Int) (bs R:Nat) (z0:Z6) (f0 xs:List Int) where
 I:IBat dbl 2 bs R 15 at12 z0 f0 xs
 iv:CV
 hin:InS w0 iv ys (xs.drop I.d)
 hz:I.z.Ok
 hf:I.fir.length=8
 hfS:∀ x∈I.fir,S16 x
def outS (l:List Int):List Blk:=match l with
 | []=>[]
 | x::r=>[sB (x::r)]
theorem outS_pos {l:List Int} (h:l≠[]):outS l=[sB l]:=by
 cases l with
 | nil=>exact absurd rfl h
 | cons=>rfl
def buS (iv:CV) (z:Z6) (s:Sr) (ys fir B:List Int) (m:Nat) (A:List Int) (p:Nat):S :=
 ⟨[(0,.o (.c (.ptr 0 0))),(1,.o (.c iv)),(2,.o (.c (.bnf 56 0 0))),(3,.o (.c (.val (.int .i64 ((2:Nat):Int))))),(4,.o (.c (.val (.int .i64 ((15:Nat):Int))))),(5,.o (.c (.clo 59 [(3,0)]))),(13,.o (.c (outV 5 A.length))),(14,.o (.c (.val (.int .i64 m)))),(15,.o (.c (.vec 4 B.length))),(16,.o (.c (.val (.int .i64 (p:Int)))))],
  [rB z s,sB ys,nB fir,f12B,nB B]++outS A⟩
theorem firL_take {at_:List Int→Int→Int} {bits r lim j:Nat} {B:List Int} (h:j<cntI lim r):(firL at_ bits r lim B).take (j+1)=(firL at_ bits r lim B).take j++[satI (rnd (at_ (B.drop (j*r / 65536)) ((j*r % 65536:Nat):Int)) bits)]:=by
 rw [List.take_add_one]
 unfold firL
 rw [List.getElem?_map,List.getElem?_range h]
 rfl
theorem at12_bd {buf:List Int} (hb:∀ x∈buf,S16 x) {o p:Nat} (hp:p<65536):iB 2000000000 (at12 (buf.drop o) p) :=
 at12_ok (t:=p*12 / 65536) (getD_S16 fun x hx=>hb x (List.mem_of_mem_drop hx)) (by omega) (by omega)
theorem rnd_bd15 {a:Int} (h:iB 2000000000 a):-9223372036854775808≤rnd a 15∧rnd a 15≤9223372036854775807:=by
 unfold rnd
 rw [show (2:Int) ^ (15 - 1)=16384 from rfl,Int.fdiv_eq_ediv_of_nonneg _ (by omega),Int.fdiv_eq_ediv_of_nonneg _ (by omega)]
 unfold iB at h
 omega
theorem adr0 (a:Addr) (p:Prop) [Decidable p]:(if p then a else a.add (Int.toNat 0*1))=a:=by
 split
 ·rfl
 cases a; rfl
theorem InS.mem {w0:World} {a:Addr} {c m:Nat} {ys xs:List Int} (hc:xs.length≤c) (hm:m≤xs.length) (h:∀ k x,xs[k]? = some x→w0.cell? ((a.add (k*1)).add 0)=some (.int .i16 x)) :
 InS w0 (.val (.slice (some (if c=((m:Nat):Int).toNat then a else a.add (((m:Nat):Int).toNat*1))) ((xs.length:Int).toNat - ((m:Nat):Int).toNat) (c - ((m:Nat):Int).toNat))) ys (xs.drop m):=by
 rw [Int.toNat_natCast,Int.toNat_natCast]
 refine Or.inr ⟨_,c - m,by rw [List.length_drop],by rw [List.length_drop]; omega,fun k x hk => ?_⟩
 rw [List.getElem?_drop] at hk
 have:=h _ _ hk
 split
 ·rename_i hcm
  have:=(List.getElem?_eq_some_iff.1 hk).1
  omega
 rw [← this,Nat.mul_one,Nat.mul_one,Nat.mul_one]
 cases a
 unfold Addr.add
 by_cases hm0:m=0
 ·subst hm0
  simp
 by_cases hk0:k=0
 ·subst hk0
  simp [hm0]
 simp [hm0,hk0,Nat.add_assoc]
theorem batUW (w0:World) {iv:CV} {ys xs fir:List Int} {z:Z6} {s:Sr} (hin:InS w0 iv ys xs) (hx:∀ x∈xs,S16 x) (hz:z.Ok) (hfr:s.from_=8∨s.from_=12∨s.from_=16) (hR:0<s.ratio) (hR1:s.ratio≤500000) (hf:fir.length=8) (hfn:s.fn=8) (hfS:∀ x∈fir,S16 x) (hbig:xs.length≤1000000) (hbo:(batI (10*s.from_) s.ratio z fir xs).1.length≤100000000) :
 CallsA Tryz.prog w0 58 [.c (.ptr 0 0),.c iv,.c (.bnf 56 0 0),.c (.val (.int .i64 ((2:Nat):Int))),.c (.val (.int .i64 ((15:Nat):Int))),.c (.clo 59 [(3,0)])] [rB z s,sB ys,nB fir,f12B]
  fun r H=>r = .o (.c (outV 4 (batI (10*s.from_) s.ratio z fir xs).1.length))∧H=[rB (batI (10*s.from_) s.ratio z fir xs).2.1 s,sB ys,nB (batI (10*s.from_) s.ratio z fir xs).2.2,f12B]++outS (batI (10*s.from_) s.ratio z fir xs).1:=by
 refine callsA_of_ev c58_ ?_
 conv=>whnf
 refine Or.inl ?_
 conv=>whnf
 refine ⟨BUx w0 ys (10*s.from_) s.ratio z fir xs,fun j=>⟨[(0,.o (.c (.ptr 0 0))),(1,.o (.c j.iv)),(2,.o (.c (.bnf 56 0 0))),(3,.o (.c (.val (.int .i64 ((2:Nat):Int))))),(4,.o (.c (.val (.int .i64 ((15:Nat):Int))))),(5,.o (.c (.clo 59 [(3,0)]))),(13,.o (.c (outV 4 j.I.acc.length)))],[rB j.I.z s,sB ys,nB j.I.fir,f12B]++outS j.I.acc⟩,fun j=>xs.length - j.I.d,⟨⟨⟨xs.length,[],z,fir,0,rfl,Nat.zero_le _,Nat.le_refl _⟩,iv,hin,hz,hf,hfS⟩,[0,1,2,3],⟨rfl,⟨rfl,rfl,rfl,rfl,rfl,rfl,congrArg some (f12E _),rfl,trivial⟩,rfl⟩,rfl,hin.ren,rfl,rfl,rfl,rfl,rfl,trivial⟩,fun j => ?_⟩
 obtain ⟨I,iv,hin,hz',hf',hfS'⟩:=j
 rcases hin with ⟨o,c,rfl,hc,hin⟩ | ⟨a,c,rfl,hc,hin⟩
 ·conv=>whnf
  refine ⟨fun h3 => ?_,fun h3 => ?_⟩
  ·have hdl:(xs.drop I.d).length=xs.length - I.d:=List.length_drop
   have hjd:I.d<xs.length:=by have:=of_decide_eq_true h3; omega
   obtain ⟨m,hm⟩:∃ m,m=min (xs.drop I.d).length (10*s.from_):=⟨_,rfl⟩
   have hjm:I.m=m:=by unfold IBat.m; rw [hm,List.length_drop]
   have h10:IntKind.i64.wrap (((10:Nat):Int)*(s.from_:Int))=((10*s.from_:Nat):Int):=by rw [wi64 (by omega)]; omega
   conv=>whnf
   rw [h10,mn_eq,← hm]
   have he:dbl I.z ((xs.drop I.d).take m)=I.e:=by unfold IBat.e; rw [hjm]
   have hx2:∀ x∈(xs.drop I.d).take m,S16 x:=fun x hx'=>hx x (List.mem_of_mem_drop (List.mem_of_mem_take hx'))
   have hlen2:((xs.drop I.d).take m).length=m:=by rw [List.length_take]; omega
   have hel:I.e.1.length=2*m:=by rw [← he,dbl_length,hlen2]
   have hm0:0<m:=by omega
   refine Or.inr ⟨Unit,fun _=>⟨[(0,.o (.c (.ptr 0 0))),(1,.o (.c ((.sli 1 1 o (xs.drop I.d).length c)))),(2,.o (.c (.bnf 56 0 0))),(3,.o (.c (.val (.int .i64 ((2:Nat):Int))))),(4,.o (.c (.val (.int .i64 ((15:Nat):Int))))),(5,.o (.c (.clo 59 [(3,0)]))),(13,.o (.c (outV 5 I.acc.length))),(14,.o (.c (.val (.int .i64 m)))),(15,.o (.c (.vec 4 (I.fir++I.e.1).length)))],[rB I.e.2 s,sB ys,nB I.fir,f12B,nB (I.fir++I.e.1)]++outS I.acc⟩,?_,fun _=>?_⟩
   ·by_cases hne:I.acc=[]
    ·rw [hne]
     conv=>whnf
     refine ⟨?_,?_⟩
     ·conv=>whnf
      refine ⟨by decide,Int,encI .i64,[],fun _=>rfl,?_⟩
      conv=>whnf
      refine ⟨⟨⟨rfl,rfl⟩,trivial⟩,?_⟩
      conv=>whnf
      refine ⟨?_,?_⟩
      ·conv=>whnf
       refine ⟨rfl,I.fir,⟨rfl,by rw [hfn,hf']; exact Nat.le_refl _,by rw [hfn,hf'],by rw [hfn,← hf',List.take_length]⟩,by rw [List.nil_append,hf']; decide,by rw [List.nil_append,hf']; decide,?_⟩
       conv=>whnf
       refine ⟨trivial,?_⟩
       conv=>whnf
       refine ⟨⟨by omega,by omega,by omega⟩,?_⟩
       conv=>whnf
       refine ⟨fun _=>?_,fun h1 h2=>absurd h2 (by omega)⟩
       conv=>whnf
       refine ⟨trivial,?_⟩
       conv=>whnf
       dsimp -iota only
       refine CallsA.liftKE (H0:=[rB I.z s,sB ys,.dead]) [0,1,2] ([rB I.z s,sB ys,.dead,.dead,.dead,.dead]) ⟨rfl,rfl,trivial⟩ rfl ⟨rfl,rfl,rfl,rfl,lk 6 rfl rfl,trivial⟩ rfl (sDoubledW w0 (iv:=_) (xs:=(xs.drop I.d).take m) (ys:=ys) (s:=s) ((.inl ⟨o,c,by rw [hlen2],fun k x hk=>hin k x (tkd hk)⟩)) hx2 hz' (by omega)) ?_
       rintro _ _ ⟨rfl,rfl⟩
       rw [he,outV_pos (by omega),outB_pos (by intro h; rw [h] at hel; simp at hel; omega)]
       refine ⟨.o (.c (.vec 6 I.e.1.length)),[rB I.e.2 s,sB ys,nB I.fir,f12B,.dead,nB I.fir,nB I.e.1],rfl,⟨rfl,rfl,rfl,rfl,rfl,rfl,rfl,trivial⟩,?_⟩
       conv=>whnf
       refine ⟨trivial,?_⟩
       conv=>whnf
       refine ⟨rfl,I.e.1,⟨rfl,Nat.le_refl _,rfl,by rw [List.take_length]⟩,by rw [List.length_append,hf',hel]; omega,by rw [List.length_append,hf',hel]; omega,?_⟩
       conv=>whnf
       refine ⟨trivial,?_⟩
       conv=>whnf
       exact ⟨(),[0,1,2,3,7],⟨rfl,⟨rfl,rfl,rfl,rfl,rfl,rfl,congrArg some (f12E _),rfl,rfl,rfl,trivial⟩,rfl⟩,rfl,rfl,rfl,rfl,rfl,rfl,rfl,rfl,rfl,trivial⟩
      conv=>whnf
      refine ⟨⟨by omega,by omega,by omega⟩,?_⟩
      conv=>whnf
      refine ⟨fun _=>?_,fun h1 h2=>absurd h2 (by omega)⟩
      conv=>whnf
      refine ⟨⟨⟨rfl,rfl⟩,trivial⟩,?_⟩
      conv=>whnf
      refine ⟨rfl,I.fir,⟨rfl,by rw [hfn,hf']; exact Nat.le_refl _,by rw [hfn,hf'],by rw [hfn,← hf',List.take_length]⟩,by rw [List.nil_append,hf']; decide,by rw [List.nil_append,hf']; decide,?_⟩
      conv=>whnf
      refine ⟨trivial,?_⟩
      conv=>whnf
      dsimp -iota only
      refine CallsA.liftKE (H0:=[rB I.z s,sB ys,.dead]) [0,1,2] ([rB I.z s,sB ys,.dead,.dead,.dead,.dead]) ⟨rfl,rfl,trivial⟩ rfl ⟨rfl,rfl,rfl,rfl,lk 6 rfl rfl,trivial⟩ rfl (sDoubledW w0 (iv:=_) (xs:=(xs.drop I.d).take m) (ys:=ys) (s:=s) ((.inl ⟨o,c,by rw [hlen2],fun k x hk=>hin k x (tkd hk)⟩)) hx2 hz' (by omega)) ?_
      rintro _ _ ⟨rfl,rfl⟩
      rw [he,outV_pos (by omega),outB_pos (by intro h; rw [h] at hel; simp at hel; omega)]
      refine ⟨.o (.c (.vec 6 I.e.1.length)),[rB I.e.2 s,sB ys,nB I.fir,f12B,.dead,nB I.fir,nB I.e.1],rfl,⟨rfl,rfl,rfl,rfl,rfl,rfl,rfl,trivial⟩,?_⟩
      conv=>whnf
      refine ⟨trivial,?_⟩
      conv=>whnf
      refine ⟨rfl,I.e.1,⟨rfl,Nat.le_refl _,rfl,by rw [List.take_length]⟩,by rw [List.length_append,hf',hel]; omega,by rw [List.length_append,hf',hel]; omega,?_⟩
      conv=>whnf
      refine ⟨trivial,?_⟩
      conv=>whnf
      exact ⟨(),[0,1,2,3,7],⟨rfl,⟨rfl,rfl,rfl,rfl,rfl,rfl,congrArg some (f12E _),rfl,rfl,rfl,trivial⟩,rfl⟩,rfl,rfl,rfl,rfl,rfl,rfl,rfl,rfl,rfl,trivial⟩
     conv=>whnf
     refine ⟨⟨by omega,by omega,by omega⟩,?_⟩
     conv=>whnf
     refine ⟨fun _=>?_,fun h1 h2=>absurd h2 (by omega)⟩
     conv=>whnf
     refine ⟨⟨⟨rfl,rfl⟩,trivial⟩,?_⟩
     conv=>whnf
     refine ⟨by decide,Int,encI .i64,[],fun _=>rfl,?_⟩
     conv=>whnf
     refine ⟨⟨⟨rfl,rfl⟩,trivial⟩,?_⟩
     conv=>whnf
     refine ⟨rfl,I.fir,⟨rfl,by rw [hfn,hf']; exact Nat.le_refl _,by rw [hfn,hf'],by rw [hfn,← hf',List.take_length]⟩,by rw [List.nil_append,hf']; decide,by rw [List.nil_append,hf']; decide,?_⟩
     conv=>whnf
     refine ⟨trivial,?_⟩
     conv=>whnf
     dsimp -iota only
     refine CallsA.liftKE (H0:=[rB I.z s,sB ys,.dead]) [0,1,2] ([rB I.z s,sB ys,.dead,.dead,.dead,.dead]) ⟨rfl,rfl,trivial⟩ rfl ⟨rfl,rfl,rfl,rfl,lk 6 rfl rfl,trivial⟩ rfl (sDoubledW w0 (iv:=_) (xs:=(xs.drop I.d).take m) (ys:=ys) (s:=s) ((.inl ⟨o,c,by rw [hlen2],fun k x hk=>hin k x (tkd hk)⟩)) hx2 hz' (by omega)) ?_
     rintro _ _ ⟨rfl,rfl⟩
     rw [he,outV_pos (by omega),outB_pos (by intro h; rw [h] at hel; simp at hel; omega)]
     refine ⟨.o (.c (.vec 6 I.e.1.length)),[rB I.e.2 s,sB ys,nB I.fir,f12B,.dead,nB I.fir,nB I.e.1],rfl,⟨rfl,rfl,rfl,rfl,rfl,rfl,rfl,trivial⟩,?_⟩
     conv=>whnf
     refine ⟨trivial,?_⟩
     conv=>whnf
     refine ⟨rfl,I.e.1,⟨rfl,Nat.le_refl _,rfl,by rw [List.take_length]⟩,by rw [List.length_append,hf',hel]; omega,by rw [List.length_append,hf',hel]; omega,?_⟩
     conv=>whnf
     refine ⟨trivial,?_⟩
     conv=>whnf
     exact ⟨(),[0,1,2,3,7],⟨rfl,⟨rfl,rfl,rfl,rfl,rfl,rfl,congrArg some (f12E _),rfl,rfl,rfl,trivial⟩,rfl⟩,rfl,rfl,rfl,rfl,rfl,rfl,rfl,rfl,rfl,trivial⟩
    have hnp:0<I.acc.length:=List.length_pos_iff.2 hne
    rw [show outV 4 I.acc.length = .vec 4 I.acc.length from outV_pos hnp,show outV 5 I.acc.length = .vec 5 I.acc.length from outV_pos hnp,outS_pos hne]
    conv=>whnf
    refine ⟨?_,?_⟩
    ·conv=>whnf
     refine ⟨by decide,Int,encI .i64,[],fun _=>rfl,?_⟩
     conv=>whnf
     refine ⟨⟨⟨rfl,rfl⟩,trivial⟩,?_⟩
     conv=>whnf
     refine ⟨?_,?_⟩
     ·conv=>whnf
      refine ⟨rfl,I.fir,⟨rfl,by rw [hfn,hf']; exact Nat.le_refl _,by rw [hfn,hf'],by rw [hfn,← hf',List.take_length]⟩,by rw [List.nil_append,hf']; decide,by rw [List.nil_append,hf']; decide,?_⟩
      conv=>whnf
      refine ⟨trivial,?_⟩
      conv=>whnf
      refine ⟨⟨by omega,by omega,by omega⟩,?_⟩
      conv=>whnf
      refine ⟨fun _=>?_,fun h1 h2=>absurd h2 (by omega)⟩
      conv=>whnf
      refine ⟨trivial,?_⟩
      conv=>whnf
      dsimp -iota only
      refine CallsA.liftKE (H0:=[rB I.z s,sB ys,.dead]) [0,1,2] ([rB I.z s,sB ys,.dead,.dead,.dead,.dead,.dead]) ⟨rfl,rfl,trivial⟩ rfl ⟨rfl,rfl,rfl,rfl,lk 7 rfl rfl,trivial⟩ rfl (sDoubledW w0 (iv:=_) (xs:=(xs.drop I.d).take m) (ys:=ys) (s:=s) ((.inl ⟨o,c,by rw [hlen2],fun k x hk=>hin k x (tkd hk)⟩)) hx2 hz' (by omega)) ?_
      rintro _ _ ⟨rfl,rfl⟩
      rw [he,outV_pos (by omega),outB_pos (by intro h; rw [h] at hel; simp at hel; omega)]
      refine ⟨.o (.c (.vec 7 I.e.1.length)),[rB I.e.2 s,sB ys,nB I.fir,f12B,sB I.acc,.dead,nB I.fir,nB I.e.1],rfl,⟨rfl,rfl,rfl,rfl,rfl,rfl,rfl,rfl,trivial⟩,?_⟩
      conv=>whnf
      refine ⟨trivial,?_⟩
      conv=>whnf
      refine ⟨rfl,I.e.1,⟨rfl,Nat.le_refl _,rfl,by rw [List.take_length]⟩,by rw [List.length_append,hf',hel]; omega,by rw [List.length_append,hf',hel]; omega,?_⟩
      conv=>whnf
      refine ⟨trivial,?_⟩
      conv=>whnf
      exact ⟨(),[0,1,2,3,8,4],⟨rfl,⟨rfl,rfl,rfl,rfl,rfl,rfl,congrArg some (f12E _),rfl,rfl,rfl,rfl,rfl,trivial⟩,rfl⟩,rfl,rfl,rfl,rfl,rfl,rfl,rfl,rfl,rfl,trivial⟩
     conv=>whnf
     refine ⟨⟨by omega,by omega,by omega⟩,?_⟩
     conv=>whnf
     refine ⟨fun _=>?_,fun h1 h2=>absurd h2 (by omega)⟩
     conv=>whnf
     refine ⟨⟨⟨rfl,rfl⟩,trivial⟩,?_⟩
     conv=>whnf
     refine ⟨rfl,I.fir,⟨rfl,by rw [hfn,hf']; exact Nat.le_refl _,by rw [hfn,hf'],by rw [hfn,← hf',List.take_length]⟩,by rw [List.nil_append,hf']; decide,by rw [List.nil_append,hf']; decide,?_⟩
     conv=>whnf
     refine ⟨trivial,?_⟩
     conv=>whnf
     dsimp -iota only
     refine CallsA.liftKE (H0:=[rB I.z s,sB ys,.dead]) [0,1,2] ([rB I.z s,sB ys,.dead,.dead,.dead,.dead,.dead]) ⟨rfl,rfl,trivial⟩ rfl ⟨rfl,rfl,rfl,rfl,lk 7 rfl rfl,trivial⟩ rfl (sDoubledW w0 (iv:=_) (xs:=(xs.drop I.d).take m) (ys:=ys) (s:=s) ((.inl ⟨o,c,by rw [hlen2],fun k x hk=>hin k x (tkd hk)⟩)) hx2 hz' (by omega)) ?_
     rintro _ _ ⟨rfl,rfl⟩
     rw [he,outV_pos (by omega),outB_pos (by intro h; rw [h] at hel; simp at hel; omega)]
     refine ⟨.o (.c (.vec 7 I.e.1.length)),[rB I.e.2 s,sB ys,nB I.fir,f12B,sB I.acc,.dead,nB I.fir,nB I.e.1],rfl,⟨rfl,rfl,rfl,rfl,rfl,rfl,rfl,rfl,trivial⟩,?_⟩
     conv=>whnf
     refine ⟨trivial,?_⟩
     conv=>whnf
     refine ⟨rfl,I.e.1,⟨rfl,Nat.le_refl _,rfl,by rw [List.take_length]⟩,by rw [List.length_append,hf',hel]; omega,by rw [List.length_append,hf',hel]; omega,?_⟩
     conv=>whnf
     refine ⟨trivial,?_⟩
     conv=>whnf
     exact ⟨(),[0,1,2,3,8,4],⟨rfl,⟨rfl,rfl,rfl,rfl,rfl,rfl,congrArg some (f12E _),rfl,rfl,rfl,rfl,rfl,trivial⟩,rfl⟩,rfl,rfl,rfl,rfl,rfl,rfl,rfl,rfl,rfl,trivial⟩
    conv=>whnf
    refine ⟨⟨by omega,by omega,by omega⟩,?_⟩
    conv=>whnf
    refine ⟨fun _=>?_,fun h1 h2=>absurd h2 (by omega)⟩
    conv=>whnf
    refine ⟨⟨⟨rfl,rfl⟩,trivial⟩,?_⟩
    conv=>whnf
    refine ⟨by decide,Int,encI .i64,[],fun _=>rfl,?_⟩
    conv=>whnf
    refine ⟨⟨⟨rfl,rfl⟩,trivial⟩,?_⟩
    conv=>whnf
    refine ⟨rfl,I.fir,⟨rfl,by rw [hfn,hf']; exact Nat.le_refl _,by rw [hfn,hf'],by rw [hfn,← hf',List.take_length]⟩,by rw [List.nil_append,hf']; decide,by rw [List.nil_append,hf']; decide,?_⟩
    conv=>whnf
    refine ⟨trivial,?_⟩
    conv=>whnf
    dsimp -iota only
    refine CallsA.liftKE (H0:=[rB I.z s,sB ys,.dead]) [0,1,2] ([rB I.z s,sB ys,.dead,.dead,.dead,.dead,.dead]) ⟨rfl,rfl,trivial⟩ rfl ⟨rfl,rfl,rfl,rfl,lk 7 rfl rfl,trivial⟩ rfl (sDoubledW w0 (iv:=_) (xs:=(xs.drop I.d).take m) (ys:=ys) (s:=s) ((.inl ⟨o,c,by rw [hlen2],fun k x hk=>hin k x (tkd hk)⟩)) hx2 hz' (by omega)) ?_
    rintro _ _ ⟨rfl,rfl⟩
    rw [he,outV_pos (by omega),outB_pos (by intro h; rw [h] at hel; simp at hel; omega)]
    refine ⟨.o (.c (.vec 7 I.e.1.length)),[rB I.e.2 s,sB ys,nB I.fir,f12B,sB I.acc,.dead,nB I.fir,nB I.e.1],rfl,⟨rfl,rfl,rfl,rfl,rfl,rfl,rfl,rfl,trivial⟩,?_⟩
    conv=>whnf
    refine ⟨trivial,?_⟩
    conv=>whnf
    refine ⟨rfl,I.e.1,⟨rfl,Nat.le_refl _,rfl,by rw [List.take_length]⟩,by rw [List.length_append,hf',hel]; omega,by rw [List.length_append,hf',hel]; omega,?_⟩
    conv=>whnf
    refine ⟨trivial,?_⟩
    conv=>whnf
    exact ⟨(),[0,1,2,3,8,4],⟨rfl,⟨rfl,rfl,rfl,rfl,rfl,rfl,congrArg some (f12E _),rfl,rfl,rfl,rfl,rfl,trivial⟩,rfl⟩,rfl,rfl,rfl,rfl,rfl,rfl,rfl,rfl,rfl,trivial⟩
   have hBl:(I.fir++I.e.1).length=8+2*m:=by rw [List.length_append,hf',hel]
   have hBS:∀ x∈I.fir++I.e.1,S16 x:=by
    intro x hx'
    rcases List.mem_append.1 hx' with h | h
    ·exact hfS' x h
    rw [← he] at h; exact dbl_S16 _ _ x h
   have hlim:IntKind.i64.wrap (IntKind.i64.wrap ((m:Int)*((2:Nat):Int))*2 ^ min 16 IntKind.i64.bits)=((m*2*65536:Nat):Int):=by
    rw [wi64 (n:=(m:Int)*((2:Nat):Int)) (by omega),show min 16 IntKind.i64.bits=16 from rfl,show (2:Int) ^ 16=65536 from rfl,wi64 (by omega)]
    omega
   have hm16:m≤160:=by omega
   have hnx:=(I.next (by omega) (by omega)).le
   have hna:(I.next (by omega) (by omega)).acc=I.acc++firL at12 15 s.ratio (I.m*2*65536) (I.fir++I.e.1):=rfl
   rw [hna,hjm] at hnx
   change _≤(batI (10*s.from_) s.ratio z fir xs).1.length at hnx
   generalize hB:I.fir++I.e.1=B at *
   have hacc:∀ j,(I.acc++(firL at12 15 s.ratio (m*2*65536) B).take j).length≤100000000:=by
    intro j
    rw [List.length_append,List.length_take] at *
    omega
   conv=>whnf
   refine Or.inl ?_
   conv=>whnf
   refine ⟨{j:Nat // j≤cntI (m*2*65536) s.ratio},fun j=>buS ((.sli 1 1 o (xs.drop I.d).length c)) I.e.2 s ys I.fir B m (I.acc++(firL at12 15 s.ratio (m*2*65536) B).take j.1) (j.1*s.ratio),fun j=>cntI (m*2*65536) s.ratio - j.1,⟨⟨0,Nat.zero_le _⟩,?_⟩,fun j => ?_⟩
   ·dsimp -iota only
    rw [show I.acc++(firL at12 15 s.ratio (m*2*65536) B).take 0=I.acc by simp,Nat.zero_mul]
    by_cases hne:I.acc=[]
    ·rw [hne]
     exact ⟨[0,1,2,3,4],⟨rfl,⟨rfl,rfl,rfl,rfl,rfl,rfl,congrArg some (f12E _),rfl,rfl,rfl,trivial⟩,rfl⟩,rfl,rfl,rfl,rfl,rfl,rfl,rfl,rfl,rfl,rfl,trivial⟩
    have hnp:0<I.acc.length:=List.length_pos_iff.2 hne
    unfold buS
    rw [outS_pos hne,show outV 5 I.acc.length = .vec 5 I.acc.length from outV_pos hnp]
    exact ⟨[0,1,2,3,4,5],⟨rfl,⟨rfl,rfl,rfl,rfl,rfl,rfl,congrArg some (f12E _),rfl,rfl,rfl,rfl,rfl,trivial⟩,rfl⟩,rfl,rfl,rfl,rfl,rfl,rfl,rfl,rfl,rfl,rfl,trivial⟩
   obtain ⟨j,hj⟩:=j
   dsimp -iota only [buS]
   have hacj:=hacc j
   have hgap:∀ hp:j*s.ratio<m*2*65536,(firL at12 15 s.ratio (m*2*65536) B).take (j+1)=(firL at12 15 s.ratio (m*2*65536) B).take j++[satI (rnd (at12 (B.drop (j*s.ratio / 65536)) ((j*s.ratio % 65536:Nat):Int)) 15)]:=fun hp=>firL_take ((cntI_lt hR).2 hp)
   by_cases hA0:I.acc++(firL at12 15 s.ratio (m*2*65536) B).take j=[]
   ·rw [hA0]
    conv=>whnf
    rw [hlim]
    refine ⟨fun h4 => ?_,fun h4 => ?_⟩
    ·have h4:=lt_t h4
     have hq:((j*s.ratio:Nat):Int).fdiv (2 ^ min 16 IntKind.i64.bits)=((j*s.ratio / 65536:Nat):Int):=by
      rw [show min 16 IntKind.i64.bits=16 from rfl,show (2:Int) ^ 16=65536 from rfl,Int.fdiv_eq_ediv_of_nonneg _ (by omega)]
      omega
     have hq8:j*s.ratio / 65536+8≤B.length:=by omega
     have hnext:=hgap h4
     have hadv:IntKind.i64.wrap (((j*s.ratio:Nat):Int)+(s.ratio:Int))=(((j+1)*s.ratio:Nat):Int):=by
      rw [Nat.add_mul,Nat.one_mul,wi64 (by omega)]
      omega
     have hvb:=at12_bd hBS (o:=j*s.ratio / 65536) (p:=j*s.ratio % 65536) (Nat.mod_lt _ (by decide))
     conv=>whnf
     rw [hq]
     refine ⟨⟨Int.natCast_nonneg _,Int.ofNat_le.2 (by omega),Int.le_refl _⟩,Or.inl ⟨fun cc hc1 hc2 => ?_,fun hh=>absurd hh (by omega),fun hh=>absurd hh (by omega)⟩⟩
     conv=>whnf
     rw [nandi (by omega) (by omega),show 65535=2 ^ 16 - 1 from rfl,Nat.and_two_pow_sub_one_eq_mod,show 2 ^ 16=65536 from rfl]
     dsimp -iota only
     refine CallsA.liftKE (H0:=[nB B,f12B]) [4,3] ([.dead,.dead,.dead,f12B,nB B]) ⟨rfl,rfl,trivial⟩ rfl ⟨rfl,rfl,congrArg some (f12E _),rfl,trivial⟩ rfl (sRun1W w0 (Nat.mod_lt _ (by decide)) (by omega) hq8 hBS) ?_
     rintro _ _ ⟨rfl,rfl⟩
     refine ⟨.o (.c (.val (.int .i64 (at12 (B.drop (j*s.ratio / 65536)) ((j*s.ratio % 65536:Nat):Int))))),[rB I.e.2 s,sB ys,nB I.fir,f12B,nB B],rfl,⟨rfl,rfl,rfl,rfl,rfl,trivial⟩,?_⟩
     have hv15:=rnd_bd15 hvb
     generalize at12 (B.drop (j*s.ratio / 65536)) ((j*s.ratio % 65536:Nat):Int)=t at hvb hv15 hnext ⊢
     conv=>whnf
     refine callV (sRoundedW w0 (k:=15) (by unfold iB at hvb; omega) (by decide) (by decide)) rfl ?_
     conv=>whnf
     refine callV (sSatW w0 hv15) rfl ?_
     conv=>whnf
     generalize satI (rnd t 15)=v at hnext ⊢
     refine ⟨by decide,Int,encI .i16,[],[v],fun _=>rfl,⟨rfl,rfl,rfl⟩,by show 1*2≤_; decide,by show 1≤_; decide,?_⟩
     conv=>whnf
     dsimp -iota only
     rw [show IntKind.i64.wrap (((j*s.ratio:Nat):Int)+(s.ratio:Int))=(((j+1)*s.ratio:Nat):Int) from hadv]
     refine ⟨⟨j+1,(cntI_lt hR).2 h4⟩,?_,Nat.sub_lt_sub_left ((cntI_lt hR).2 h4) (Nat.lt_succ_self j)⟩
     dsimp -iota only
     rw [hnext,← List.append_assoc,hA0]
     exact ⟨[0,1,2,3,4,6],⟨rfl,⟨rfl,rfl,rfl,rfl,rfl,rfl,congrArg some (f12E _),rfl,rfl,rfl,rfl,rfl,trivial⟩,rfl⟩,rfl,rfl,rfl,rfl,rfl,rfl,rfl,rfl,rfl,rfl,trivial⟩
    have h4:=lt_f h4
    have hlt:0<cntI (m*2*65536) s.ratio:=(cntI_lt hR).2 (by omega)
    have hje:¬ j<cntI (m*2*65536) s.ratio:=fun h=>absurd ((cntI_lt hR).1 h) (by omega)
    have:=congrArg List.length hA0
    rw [List.length_append,List.length_take,firL_length] at this
    exact absurd this (by show _≠0; omega)
   have hAp:0<(I.acc++(firL at12 15 s.ratio (m*2*65536) B).take j).length:=List.length_pos_iff.2 hA0
   rw [outS_pos hA0,show outV 5 (I.acc++(firL at12 15 s.ratio (m*2*65536) B).take j).length = .vec 5 (I.acc++(firL at12 15 s.ratio (m*2*65536) B).take j).length from outV_pos hAp]
   conv=>whnf
   rw [hlim]
   refine ⟨fun h4 => ?_,fun h4 => ?_⟩
   ·have h4:=lt_t h4
    have hq:((j*s.ratio:Nat):Int).fdiv (2 ^ min 16 IntKind.i64.bits)=((j*s.ratio / 65536:Nat):Int):=by
     rw [show min 16 IntKind.i64.bits=16 from rfl,show (2:Int) ^ 16=65536 from rfl,Int.fdiv_eq_ediv_of_nonneg _ (by omega)]
     omega
    have hq8:j*s.ratio / 65536+8≤B.length:=by omega
    have hnext:=hgap h4
    have hadv:IntKind.i64.wrap (((j*s.ratio:Nat):Int)+(s.ratio:Int))=(((j+1)*s.ratio:Nat):Int):=by
     rw [Nat.add_mul,Nat.one_mul,wi64 (by omega)]
     omega
    have hvb:=at12_bd hBS (o:=j*s.ratio / 65536) (p:=j*s.ratio % 65536) (Nat.mod_lt _ (by decide))
    conv=>whnf
    rw [hq]
    refine ⟨⟨Int.natCast_nonneg _,Int.ofNat_le.2 (by omega),Int.le_refl _⟩,Or.inl ⟨fun cc hc1 hc2 => ?_,fun hh=>absurd hh (by omega),fun hh=>absurd hh (by omega)⟩⟩
    conv=>whnf
    rw [nandi (by omega) (by omega),show 65535=2 ^ 16 - 1 from rfl,Nat.and_two_pow_sub_one_eq_mod,show 2 ^ 16=65536 from rfl]
    dsimp -iota only
    refine CallsA.liftKE (H0:=[nB B,f12B]) [4,3] ([.dead,.dead,.dead,f12B,nB B,.dead]) ⟨rfl,rfl,trivial⟩ rfl ⟨rfl,rfl,congrArg some (f12E _),rfl,trivial⟩ rfl (sRun1W w0 (Nat.mod_lt _ (by decide)) (by omega) hq8 hBS) ?_
    rintro _ _ ⟨rfl,rfl⟩
    refine ⟨.o (.c (.val (.int .i64 (at12 (B.drop (j*s.ratio / 65536)) ((j*s.ratio % 65536:Nat):Int))))),[rB I.e.2 s,sB ys,nB I.fir,f12B,nB B,sB (I.acc++(firL at12 15 s.ratio (m*2*65536) B).take j)],rfl,⟨rfl,rfl,rfl,rfl,rfl,rfl,trivial⟩,?_⟩
    have hv15:=rnd_bd15 hvb
    generalize at12 (B.drop (j*s.ratio / 65536)) ((j*s.ratio % 65536:Nat):Int)=t at hvb hv15 hnext ⊢
    conv=>whnf
    refine callV (sRoundedW w0 (k:=15) (by unfold iB at hvb; omega) (by decide) (by decide)) rfl ?_
    conv=>whnf
    refine callV (sSatW w0 hv15) rfl ?_
    conv=>whnf
    generalize satI (rnd t 15)=v at hnext ⊢
    refine ⟨rfl,[v],⟨rfl,rfl,rfl⟩,by show _*2≤_; rw [List.length_append]; show (_+1)*2≤_; omega,by rw [List.length_append]; show _+1≤_; omega,?_⟩
    conv=>whnf
    dsimp -iota only
    rw [show IntKind.i64.wrap (((j*s.ratio:Nat):Int)+(s.ratio:Int))=(((j+1)*s.ratio:Nat):Int) from hadv]
    refine ⟨⟨j+1,(cntI_lt hR).2 h4⟩,?_,Nat.sub_lt_sub_left ((cntI_lt hR).2 h4) (Nat.lt_succ_self j)⟩
    dsimp -iota only
    rw [hnext,← List.append_assoc,outV_pos (n:=(I.acc++(firL at12 15 s.ratio (m*2*65536) B).take j++[v]).length) (by rw [List.length_append]; exact Nat.succ_pos _),outS_pos (l:=I.acc++(firL at12 15 s.ratio (m*2*65536) B).take j++[v]) (by simp)]
    exact ⟨[0,1,2,3,4,7],⟨rfl,⟨rfl,rfl,rfl,rfl,rfl,rfl,congrArg some (f12E _),rfl,rfl,rfl,rfl,rfl,trivial⟩,rfl⟩,rfl,rfl,rfl,rfl,rfl,rfl,rfl,rfl,rfl,rfl,trivial⟩
   have h4:=lt_f h4
   have hje:¬ j<cntI (m*2*65536) s.ratio:=fun h=>absurd ((cntI_lt hR).1 h) (by omega)
   have hm2:IntKind.i64.wrap ((m:Int)*((2:Nat):Int))=((m*2:Nat):Int):=by rw [wi64 (by omega)]; omega
   rw [List.take_of_length_le (by rw [firL_length]; omega)] at hAp hacj ⊢
   conv=>whnf
   rw [hm2]
   refine ⟨⟨Int.natCast_nonneg _,Int.ofNat_le.2 (by omega),Int.le_refl _⟩,Or.inl ⟨fun cc hc1 hc2 => ?_,fun hh=>absurd hh (by omega),fun hh=>absurd hh (by omega)⟩⟩
   conv=>whnf
   have e8:((B.drop (m*2)).take I.fir.length).length=8:=by rw [hf',List.length_take,List.length_drop]; omega
   have hBd:B.drop (m*2)=(B.drop (m*2)).take I.fir.length:=(List.take_of_length_le (by rw [List.length_drop]; omega)).symm
   have hsz:((m*2:Nat):Int).toNat=m*2:=Int.toNat_natCast _
   have hsB:((B.length:Nat):Int).toNat - ((m*2:Nat):Int).toNat=I.fir.length:=by rw [Int.toNat_natCast,Int.toNat_natCast]; omega
   refine ⟨by rw [hfn,hf'],(B.drop (m*2)).take I.fir.length,?_,by rw [e8,hfn]; exact Nat.le_refl _,?_⟩
   ·refine ⟨rfl,rfl,?_,?_,?_⟩
    ·rw [hsB,hsz]; omega
    ·rw [hsB,e8,hf']
    rw [hsB,hsz]
   conv=>whnf
   rw [List.drop_of_length_le (l:=I.fir) (by rw [e8]; exact Nat.le_of_eq hf'),List.append_nil]
   refine ⟨trivial,?_⟩
   conv=>whnf
   dsimp -iota only
   have hzn:(I.next (by omega) (by omega)).z.Ok:=by rw [show (I.next (by omega) (by omega)).z=I.e.2 from rfl,← he]; exact dbl_ok hz' hx2
   have hfl:(I.next (by omega) (by omega)).fir.length=8:=by
    have:(I.next (by omega) (by omega)).fir=((I.fir++I.e.1).drop (I.m*2)).take I.fir.length:=rfl
    rw [this,hB,hjm,e8]
   have hfS2:∀ x∈(I.next (by omega) (by omega)).fir,S16 x:=by
    have:(I.next (by omega) (by omega)).fir=((I.fir++I.e.1).drop (I.m*2)).take I.fir.length:=rfl
    rw [this,hB,hjm]
    exact fun x hx'=>hBS x (List.mem_of_mem_drop (List.mem_of_mem_take hx'))
   have hdn:xs.drop (I.next (by omega) (by omega)).d=(xs.drop I.d).drop m:=by
    have:(I.next (by omega) (by omega)).d=I.d+I.m:=rfl
    rw [this,List.drop_drop,hjm]
   have hmd:I.m=m:=hjm
   refine ⟨⟨Int.natCast_nonneg _,Int.ofNat_le.2 (by omega),Int.le_refl _⟩,?_⟩
   conv=>whnf
   subst hB hjm
   have hcb:0<10*s.from_:=by omega
   have hac:0<(I.next hjd hcb).acc.length:=hAp
   refine ⟨fun hc1 => ?_,fun hc1 hc2 => ?_⟩
   ·have hin2:InS w0 (.sli 1 1 (o+((I.m:Nat):Int).toNat) (((xs.drop I.d).length:Int).toNat - ((I.m:Nat):Int).toNat) (c - ((I.m:Nat):Int).toNat)) ys (xs.drop (I.next hjd hcb).d):=by
     rw [hdn,Int.toNat_natCast,Int.toNat_natCast]
     refine Or.inl ⟨o+I.m,c - I.m,by rw [List.length_drop (i:=I.m)],by rw [List.length_drop (i:=I.m)]; omega,fun k x hk => ?_⟩
     rw [Nat.add_assoc]
     rw [List.getElem?_drop] at hk
     exact hin _ _ hk
    conv=>whnf
    refine ⟨⟨I.next hjd hcb,_,hin2,hzn,hfl,hfS2⟩,?_,?_⟩
    ·dsimp -iota only
     rw [outV_pos (n:=(I.next hjd hcb).acc.length) hac,outS_pos (l:=(I.next hjd hcb).acc) (List.ne_nil_of_length_pos hac)]
     exact ⟨[0,1,2,3,5],⟨rfl,⟨rfl,rfl,rfl,rfl,rfl,rfl,congrArg some (f12E _),rfl,rfl,rfl,trivial⟩,rfl⟩,rfl,rfl,rfl,rfl,rfl,rfl,rfl,trivial⟩
    show xs.length - (I.d+I.m)<_
    omega
   have hlm:(xs.drop I.d).length=I.m:=by omega
   have hin2:InS w0 (.sli 1 1 o 0 0) ys (xs.drop (I.next hjd hcb).d):=by
    rw [hdn,List.drop_of_length_le (Nat.le_of_eq hlm)]
    exact Or.inl ⟨o,0,rfl,Nat.le_refl _,fun k x hk=>absurd hk (by simp)⟩
   conv=>whnf
   refine ⟨⟨I.next hjd hcb,_,hin2,hzn,hfl,hfS2⟩,?_,?_⟩
   ·dsimp -iota only
    rw [outV_pos (n:=(I.next hjd hcb).acc.length) hac,outS_pos (l:=(I.next hjd hcb).acc) (List.ne_nil_of_length_pos hac)]
    exact ⟨[0,1,2,3,5],⟨rfl,⟨rfl,rfl,rfl,rfl,rfl,rfl,congrArg some (f12E _),rfl,rfl,rfl,trivial⟩,rfl⟩,rfl,rfl,rfl,rfl,rfl,rfl,rfl,trivial⟩
   show xs.length - (I.d+I.m)<_
   omega
  have h3:xs.length≤I.d:=by have:=of_decide_eq_false h3; rw [List.length_drop] at this; omega
  have hfi:=I.fin h3
  change batI (10*s.from_) s.ratio z fir xs=_ at hfi
  conv=>whnf
  refine Or.inl ⟨?_,?_⟩
  ·rw [hfi]
   dsimp -iota only
   generalize I.acc.length=q
   cases q <;> rfl
  rw [hfi]
 conv=>whnf
 refine ⟨fun h3 => ?_,fun h3 => ?_⟩
 ·have hdl:(xs.drop I.d).length=xs.length - I.d:=List.length_drop
  have hjd:I.d<xs.length:=by have:=of_decide_eq_true h3; omega
  obtain ⟨m,hm⟩:∃ m,m=min (xs.drop I.d).length (10*s.from_):=⟨_,rfl⟩
  have hjm:I.m=m:=by unfold IBat.m; rw [hm,List.length_drop]
  have h10:IntKind.i64.wrap (((10:Nat):Int)*(s.from_:Int))=((10*s.from_:Nat):Int):=by rw [wi64 (by omega)]; omega
  conv=>whnf
  rw [h10,mn_eq,← hm]
  have he:dbl I.z ((xs.drop I.d).take m)=I.e:=by unfold IBat.e; rw [hjm]
  have hx2:∀ x∈(xs.drop I.d).take m,S16 x:=fun x hx'=>hx x (List.mem_of_mem_drop (List.mem_of_mem_take hx'))
  have hlen2:((xs.drop I.d).take m).length=m:=by rw [List.length_take]; omega
  have hel:I.e.1.length=2*m:=by rw [← he,dbl_length,hlen2]
  have hm0:0<m:=by omega
  refine Or.inr ⟨Unit,fun _=>⟨[(0,.o (.c (.ptr 0 0))),(1,.o (.c ((.val (.slice (some a) (xs.drop I.d).length c))))),(2,.o (.c (.bnf 56 0 0))),(3,.o (.c (.val (.int .i64 ((2:Nat):Int))))),(4,.o (.c (.val (.int .i64 ((15:Nat):Int))))),(5,.o (.c (.clo 59 [(3,0)]))),(13,.o (.c (outV 5 I.acc.length))),(14,.o (.c (.val (.int .i64 m)))),(15,.o (.c (.vec 4 (I.fir++I.e.1).length)))],[rB I.e.2 s,sB ys,nB I.fir,f12B,nB (I.fir++I.e.1)]++outS I.acc⟩,?_,fun _=>?_⟩
  ·by_cases hne:I.acc=[]
   ·rw [hne]
    conv=>whnf
    refine ⟨?_,?_⟩
    ·conv=>whnf
     refine ⟨by decide,Int,encI .i64,[],fun _=>rfl,?_⟩
     conv=>whnf
     refine ⟨⟨⟨rfl,rfl⟩,trivial⟩,?_⟩
     conv=>whnf
     refine ⟨?_,?_⟩
     ·conv=>whnf
      refine ⟨rfl,I.fir,⟨rfl,by rw [hfn,hf']; exact Nat.le_refl _,by rw [hfn,hf'],by rw [hfn,← hf',List.take_length]⟩,by rw [List.nil_append,hf']; decide,by rw [List.nil_append,hf']; decide,?_⟩
      conv=>whnf
      refine ⟨trivial,?_⟩
      conv=>whnf
      refine ⟨⟨by omega,by omega,by omega⟩,?_⟩
      conv=>whnf
      rw [adr0]
      refine ⟨trivial,?_⟩
      conv=>whnf
      dsimp -iota only
      refine CallsA.liftKE (H0:=[rB I.z s,sB ys,.dead]) [0,1,2] ([rB I.z s,sB ys,.dead,.dead,.dead,.dead]) ⟨rfl,rfl,trivial⟩ rfl ⟨rfl,rfl,rfl,rfl,lk 6 rfl rfl,trivial⟩ rfl (sDoubledW w0 (iv:=_) (xs:=(xs.drop I.d).take m) (ys:=ys) (s:=s) ((.inr (.inl ⟨a,c,by rw [hlen2],fun k x hk=>hin k x (tkd hk)⟩))) hx2 hz' (by omega)) ?_
      rintro _ _ ⟨rfl,rfl⟩
      rw [he,outV_pos (by omega),outB_pos (by intro h; rw [h] at hel; simp at hel; omega)]
      refine ⟨.o (.c (.vec 6 I.e.1.length)),[rB I.e.2 s,sB ys,nB I.fir,f12B,.dead,nB I.fir,nB I.e.1],rfl,⟨rfl,rfl,rfl,rfl,rfl,rfl,rfl,trivial⟩,?_⟩
      conv=>whnf
      refine ⟨trivial,?_⟩
      conv=>whnf
      refine ⟨rfl,I.e.1,⟨rfl,Nat.le_refl _,rfl,by rw [List.take_length]⟩,by rw [List.length_append,hf',hel]; omega,by rw [List.length_append,hf',hel]; omega,?_⟩
      conv=>whnf
      refine ⟨trivial,?_⟩
      conv=>whnf
      exact ⟨(),[0,1,2,3,7],⟨rfl,⟨rfl,rfl,rfl,rfl,rfl,rfl,congrArg some (f12E _),rfl,rfl,rfl,trivial⟩,rfl⟩,rfl,rfl,rfl,rfl,rfl,rfl,rfl,rfl,rfl,trivial⟩
     conv=>whnf
     refine ⟨⟨by omega,by omega,by omega⟩,?_⟩
     conv=>whnf
     rw [adr0]
     refine ⟨⟨⟨rfl,rfl⟩,trivial⟩,?_⟩
     conv=>whnf
     refine ⟨rfl,I.fir,⟨rfl,by rw [hfn,hf']; exact Nat.le_refl _,by rw [hfn,hf'],by rw [hfn,← hf',List.take_length]⟩,by rw [List.nil_append,hf']; decide,by rw [List.nil_append,hf']; decide,?_⟩
     conv=>whnf
     refine ⟨trivial,?_⟩
     conv=>whnf
     dsimp -iota only
     refine CallsA.liftKE (H0:=[rB I.z s,sB ys,.dead]) [0,1,2] ([rB I.z s,sB ys,.dead,.dead,.dead,.dead]) ⟨rfl,rfl,trivial⟩ rfl ⟨rfl,rfl,rfl,rfl,lk 6 rfl rfl,trivial⟩ rfl (sDoubledW w0 (iv:=_) (xs:=(xs.drop I.d).take m) (ys:=ys) (s:=s) ((.inr (.inl ⟨a,c,by rw [hlen2],fun k x hk=>hin k x (tkd hk)⟩))) hx2 hz' (by omega)) ?_
     rintro _ _ ⟨rfl,rfl⟩
     rw [he,outV_pos (by omega),outB_pos (by intro h; rw [h] at hel; simp at hel; omega)]
     refine ⟨.o (.c (.vec 6 I.e.1.length)),[rB I.e.2 s,sB ys,nB I.fir,f12B,.dead,nB I.fir,nB I.e.1],rfl,⟨rfl,rfl,rfl,rfl,rfl,rfl,rfl,trivial⟩,?_⟩
     conv=>whnf
     refine ⟨trivial,?_⟩
     conv=>whnf
     refine ⟨rfl,I.e.1,⟨rfl,Nat.le_refl _,rfl,by rw [List.take_length]⟩,by rw [List.length_append,hf',hel]; omega,by rw [List.length_append,hf',hel]; omega,?_⟩
     conv=>whnf
     refine ⟨trivial,?_⟩
     conv=>whnf
     exact ⟨(),[0,1,2,3,7],⟨rfl,⟨rfl,rfl,rfl,rfl,rfl,rfl,congrArg some (f12E _),rfl,rfl,rfl,trivial⟩,rfl⟩,rfl,rfl,rfl,rfl,rfl,rfl,rfl,rfl,rfl,trivial⟩
    conv=>whnf
    refine ⟨⟨by omega,by omega,by omega⟩,?_⟩
    conv=>whnf
    rw [adr0]
    refine ⟨⟨⟨rfl,rfl⟩,trivial⟩,?_⟩
    conv=>whnf
    refine ⟨by decide,Int,encI .i64,[],fun _=>rfl,?_⟩
    conv=>whnf
    refine ⟨⟨⟨rfl,rfl⟩,trivial⟩,?_⟩
    conv=>whnf
    refine ⟨rfl,I.fir,⟨rfl,by rw [hfn,hf']; exact Nat.le_refl _,by rw [hfn,hf'],by rw [hfn,← hf',List.take_length]⟩,by rw [List.nil_append,hf']; decide,by rw [List.nil_append,hf']; decide,?_⟩
    conv=>whnf
    refine ⟨trivial,?_⟩
    conv=>whnf
    dsimp -iota only
    refine CallsA.liftKE (H0:=[rB I.z s,sB ys,.dead]) [0,1,2] ([rB I.z s,sB ys,.dead,.dead,.dead,.dead]) ⟨rfl,rfl,trivial⟩ rfl ⟨rfl,rfl,rfl,rfl,lk 6 rfl rfl,trivial⟩ rfl (sDoubledW w0 (iv:=_) (xs:=(xs.drop I.d).take m) (ys:=ys) (s:=s) ((.inr (.inl ⟨a,c,by rw [hlen2],fun k x hk=>hin k x (tkd hk)⟩))) hx2 hz' (by omega)) ?_
    rintro _ _ ⟨rfl,rfl⟩
    rw [he,outV_pos (by omega),outB_pos (by intro h; rw [h] at hel; simp at hel; omega)]
    refine ⟨.o (.c (.vec 6 I.e.1.length)),[rB I.e.2 s,sB ys,nB I.fir,f12B,.dead,nB I.fir,nB I.e.1],rfl,⟨rfl,rfl,rfl,rfl,rfl,rfl,rfl,trivial⟩,?_⟩
    conv=>whnf
    refine ⟨trivial,?_⟩
    conv=>whnf
    refine ⟨rfl,I.e.1,⟨rfl,Nat.le_refl _,rfl,by rw [List.take_length]⟩,by rw [List.length_append,hf',hel]; omega,by rw [List.length_append,hf',hel]; omega,?_⟩
    conv=>whnf
    refine ⟨trivial,?_⟩
    conv=>whnf
    exact ⟨(),[0,1,2,3,7],⟨rfl,⟨rfl,rfl,rfl,rfl,rfl,rfl,congrArg some (f12E _),rfl,rfl,rfl,trivial⟩,rfl⟩,rfl,rfl,rfl,rfl,rfl,rfl,rfl,rfl,rfl,trivial⟩
   have hnp:0<I.acc.length:=List.length_pos_iff.2 hne
   rw [show outV 4 I.acc.length = .vec 4 I.acc.length from outV_pos hnp,show outV 5 I.acc.length = .vec 5 I.acc.length from outV_pos hnp,outS_pos hne]
   conv=>whnf
   refine ⟨?_,?_⟩
   ·conv=>whnf
    refine ⟨by decide,Int,encI .i64,[],fun _=>rfl,?_⟩
    conv=>whnf
    refine ⟨⟨⟨rfl,rfl⟩,trivial⟩,?_⟩
    conv=>whnf
    refine ⟨?_,?_⟩
    ·conv=>whnf
     refine ⟨rfl,I.fir,⟨rfl,by rw [hfn,hf']; exact Nat.le_refl _,by rw [hfn,hf'],by rw [hfn,← hf',List.take_length]⟩,by rw [List.nil_append,hf']; decide,by rw [List.nil_append,hf']; decide,?_⟩
     conv=>whnf
     refine ⟨trivial,?_⟩
     conv=>whnf
     refine ⟨⟨by omega,by omega,by omega⟩,?_⟩
     conv=>whnf
     rw [adr0]
     refine ⟨trivial,?_⟩
     conv=>whnf
     dsimp -iota only
     refine CallsA.liftKE (H0:=[rB I.z s,sB ys,.dead]) [0,1,2] ([rB I.z s,sB ys,.dead,.dead,.dead,.dead,.dead]) ⟨rfl,rfl,trivial⟩ rfl ⟨rfl,rfl,rfl,rfl,lk 7 rfl rfl,trivial⟩ rfl (sDoubledW w0 (iv:=_) (xs:=(xs.drop I.d).take m) (ys:=ys) (s:=s) ((.inr (.inl ⟨a,c,by rw [hlen2],fun k x hk=>hin k x (tkd hk)⟩))) hx2 hz' (by omega)) ?_
     rintro _ _ ⟨rfl,rfl⟩
     rw [he,outV_pos (by omega),outB_pos (by intro h; rw [h] at hel; simp at hel; omega)]
     refine ⟨.o (.c (.vec 7 I.e.1.length)),[rB I.e.2 s,sB ys,nB I.fir,f12B,sB I.acc,.dead,nB I.fir,nB I.e.1],rfl,⟨rfl,rfl,rfl,rfl,rfl,rfl,rfl,rfl,trivial⟩,?_⟩
     conv=>whnf
     refine ⟨trivial,?_⟩
     conv=>whnf
     refine ⟨rfl,I.e.1,⟨rfl,Nat.le_refl _,rfl,by rw [List.take_length]⟩,by rw [List.length_append,hf',hel]; omega,by rw [List.length_append,hf',hel]; omega,?_⟩
     conv=>whnf
     refine ⟨trivial,?_⟩
     conv=>whnf
     exact ⟨(),[0,1,2,3,8,4],⟨rfl,⟨rfl,rfl,rfl,rfl,rfl,rfl,congrArg some (f12E _),rfl,rfl,rfl,rfl,rfl,trivial⟩,rfl⟩,rfl,rfl,rfl,rfl,rfl,rfl,rfl,rfl,rfl,trivial⟩
    conv=>whnf
    refine ⟨⟨by omega,by omega,by omega⟩,?_⟩
    conv=>whnf
    rw [adr0]
    refine ⟨⟨⟨rfl,rfl⟩,trivial⟩,?_⟩
    conv=>whnf
    refine ⟨rfl,I.fir,⟨rfl,by rw [hfn,hf']; exact Nat.le_refl _,by rw [hfn,hf'],by rw [hfn,← hf',List.take_length]⟩,by rw [List.nil_append,hf']; decide,by rw [List.nil_append,hf']; decide,?_⟩
    conv=>whnf
    refine ⟨trivial,?_⟩
    conv=>whnf
    dsimp -iota only
    refine CallsA.liftKE (H0:=[rB I.z s,sB ys,.dead]) [0,1,2] ([rB I.z s,sB ys,.dead,.dead,.dead,.dead,.dead]) ⟨rfl,rfl,trivial⟩ rfl ⟨rfl,rfl,rfl,rfl,lk 7 rfl rfl,trivial⟩ rfl (sDoubledW w0 (iv:=_) (xs:=(xs.drop I.d).take m) (ys:=ys) (s:=s) ((.inr (.inl ⟨a,c,by rw [hlen2],fun k x hk=>hin k x (tkd hk)⟩))) hx2 hz' (by omega)) ?_
    rintro _ _ ⟨rfl,rfl⟩
    rw [he,outV_pos (by omega),outB_pos (by intro h; rw [h] at hel; simp at hel; omega)]
    refine ⟨.o (.c (.vec 7 I.e.1.length)),[rB I.e.2 s,sB ys,nB I.fir,f12B,sB I.acc,.dead,nB I.fir,nB I.e.1],rfl,⟨rfl,rfl,rfl,rfl,rfl,rfl,rfl,rfl,trivial⟩,?_⟩
    conv=>whnf
    refine ⟨trivial,?_⟩
    conv=>whnf
    refine ⟨rfl,I.e.1,⟨rfl,Nat.le_refl _,rfl,by rw [List.take_length]⟩,by rw [List.length_append,hf',hel]; omega,by rw [List.length_append,hf',hel]; omega,?_⟩
    conv=>whnf
    refine ⟨trivial,?_⟩
    conv=>whnf
    exact ⟨(),[0,1,2,3,8,4],⟨rfl,⟨rfl,rfl,rfl,rfl,rfl,rfl,congrArg some (f12E _),rfl,rfl,rfl,rfl,rfl,trivial⟩,rfl⟩,rfl,rfl,rfl,rfl,rfl,rfl,rfl,rfl,rfl,trivial⟩
   conv=>whnf
   refine ⟨⟨by omega,by omega,by omega⟩,?_⟩
   conv=>whnf
   rw [adr0]
   refine ⟨⟨⟨rfl,rfl⟩,trivial⟩,?_⟩
   conv=>whnf
   refine ⟨by decide,Int,encI .i64,[],fun _=>rfl,?_⟩
   conv=>whnf
   refine ⟨⟨⟨rfl,rfl⟩,trivial⟩,?_⟩
   conv=>whnf
   refine ⟨rfl,I.fir,⟨rfl,by rw [hfn,hf']; exact Nat.le_refl _,by rw [hfn,hf'],by rw [hfn,← hf',List.take_length]⟩,by rw [List.nil_append,hf']; decide,by rw [List.nil_append,hf']; decide,?_⟩
   conv=>whnf
   refine ⟨trivial,?_⟩
   conv=>whnf
   dsimp -iota only
   refine CallsA.liftKE (H0:=[rB I.z s,sB ys,.dead]) [0,1,2] ([rB I.z s,sB ys,.dead,.dead,.dead,.dead,.dead]) ⟨rfl,rfl,trivial⟩ rfl ⟨rfl,rfl,rfl,rfl,lk 7 rfl rfl,trivial⟩ rfl (sDoubledW w0 (iv:=_) (xs:=(xs.drop I.d).take m) (ys:=ys) (s:=s) ((.inr (.inl ⟨a,c,by rw [hlen2],fun k x hk=>hin k x (tkd hk)⟩))) hx2 hz' (by omega)) ?_
   rintro _ _ ⟨rfl,rfl⟩
   rw [he,outV_pos (by omega),outB_pos (by intro h; rw [h] at hel; simp at hel; omega)]
   refine ⟨.o (.c (.vec 7 I.e.1.length)),[rB I.e.2 s,sB ys,nB I.fir,f12B,sB I.acc,.dead,nB I.fir,nB I.e.1],rfl,⟨rfl,rfl,rfl,rfl,rfl,rfl,rfl,rfl,trivial⟩,?_⟩
   conv=>whnf
   refine ⟨trivial,?_⟩
   conv=>whnf
   refine ⟨rfl,I.e.1,⟨rfl,Nat.le_refl _,rfl,by rw [List.take_length]⟩,by rw [List.length_append,hf',hel]; omega,by rw [List.length_append,hf',hel]; omega,?_⟩
   conv=>whnf
   refine ⟨trivial,?_⟩
   conv=>whnf
   exact ⟨(),[0,1,2,3,8,4],⟨rfl,⟨rfl,rfl,rfl,rfl,rfl,rfl,congrArg some (f12E _),rfl,rfl,rfl,rfl,rfl,trivial⟩,rfl⟩,rfl,rfl,rfl,rfl,rfl,rfl,rfl,rfl,rfl,trivial⟩
  have hBl:(I.fir++I.e.1).length=8+2*m:=by rw [List.length_append,hf',hel]
  have hBS:∀ x∈I.fir++I.e.1,S16 x:=by
   intro x hx'
   rcases List.mem_append.1 hx' with h | h
   ·exact hfS' x h
   rw [← he] at h; exact dbl_S16 _ _ x h
  have hlim:IntKind.i64.wrap (IntKind.i64.wrap ((m:Int)*((2:Nat):Int))*2 ^ min 16 IntKind.i64.bits)=((m*2*65536:Nat):Int):=by
   rw [wi64 (n:=(m:Int)*((2:Nat):Int)) (by omega),show min 16 IntKind.i64.bits=16 from rfl,show (2:Int) ^ 16=65536 from rfl,wi64 (by omega)]
   omega
  have hm16:m≤160:=by omega
  have hnx:=(I.next (by omega) (by omega)).le
  have hna:(I.next (by omega) (by omega)).acc=I.acc++firL at12 15 s.ratio (I.m*2*65536) (I.fir++I.e.1):=rfl
  rw [hna,hjm] at hnx
  change _≤(batI (10*s.from_) s.ratio z fir xs).1.length at hnx
  generalize hB:I.fir++I.e.1=B at *
  have hacc:∀ j,(I.acc++(firL at12 15 s.ratio (m*2*65536) B).take j).length≤100000000:=by
   intro j
   rw [List.length_append,List.length_take] at *
   omega
  conv=>whnf
  refine Or.inl ?_
  conv=>whnf
  refine ⟨{j:Nat // j≤cntI (m*2*65536) s.ratio},fun j=>buS ((.val (.slice (some a) (xs.drop I.d).length c))) I.e.2 s ys I.fir B m (I.acc++(firL at12 15 s.ratio (m*2*65536) B).take j.1) (j.1*s.ratio),fun j=>cntI (m*2*65536) s.ratio - j.1,⟨⟨0,Nat.zero_le _⟩,?_⟩,fun j => ?_⟩
  ·dsimp -iota only
   rw [show I.acc++(firL at12 15 s.ratio (m*2*65536) B).take 0=I.acc by simp,Nat.zero_mul]
   by_cases hne:I.acc=[]
   ·rw [hne]
    exact ⟨[0,1,2,3,4],⟨rfl,⟨rfl,rfl,rfl,rfl,rfl,rfl,congrArg some (f12E _),rfl,rfl,rfl,trivial⟩,rfl⟩,rfl,rfl,rfl,rfl,rfl,rfl,rfl,rfl,rfl,rfl,trivial⟩
   have hnp:0<I.acc.length:=List.length_pos_iff.2 hne
   unfold buS
   rw [outS_pos hne,show outV 5 I.acc.length = .vec 5 I.acc.length from outV_pos hnp]
   exact ⟨[0,1,2,3,4,5],⟨rfl,⟨rfl,rfl,rfl,rfl,rfl,rfl,congrArg some (f12E _),rfl,rfl,rfl,rfl,rfl,trivial⟩,rfl⟩,rfl,rfl,rfl,rfl,rfl,rfl,rfl,rfl,rfl,rfl,trivial⟩
  obtain ⟨j,hj⟩:=j
  dsimp -iota only [buS]
  have hacj:=hacc j
  have hgap:∀ hp:j*s.ratio<m*2*65536,(firL at12 15 s.ratio (m*2*65536) B).take (j+1)=(firL at12 15 s.ratio (m*2*65536) B).take j++[satI (rnd (at12 (B.drop (j*s.ratio / 65536)) ((j*s.ratio % 65536:Nat):Int)) 15)]:=fun hp=>firL_take ((cntI_lt hR).2 hp)
  by_cases hA0:I.acc++(firL at12 15 s.ratio (m*2*65536) B).take j=[]
  ·rw [hA0]
   conv=>whnf
   rw [hlim]
   refine ⟨fun h4 => ?_,fun h4 => ?_⟩
   ·have h4:=lt_t h4
    have hq:((j*s.ratio:Nat):Int).fdiv (2 ^ min 16 IntKind.i64.bits)=((j*s.ratio / 65536:Nat):Int):=by
     rw [show min 16 IntKind.i64.bits=16 from rfl,show (2:Int) ^ 16=65536 from rfl,Int.fdiv_eq_ediv_of_nonneg _ (by omega)]
     omega
    have hq8:j*s.ratio / 65536+8≤B.length:=by omega
    have hnext:=hgap h4
    have hadv:IntKind.i64.wrap (((j*s.ratio:Nat):Int)+(s.ratio:Int))=(((j+1)*s.ratio:Nat):Int):=by
     rw [Nat.add_mul,Nat.one_mul,wi64 (by omega)]
     omega
    have hvb:=at12_bd hBS (o:=j*s.ratio / 65536) (p:=j*s.ratio % 65536) (Nat.mod_lt _ (by decide))
    conv=>whnf
    rw [hq]
    refine ⟨⟨Int.natCast_nonneg _,Int.ofNat_le.2 (by omega),Int.le_refl _⟩,Or.inl ⟨fun cc hc1 hc2 => ?_,fun hh=>absurd hh (by omega),fun hh=>absurd hh (by omega)⟩⟩
    conv=>whnf
    rw [nandi (by omega) (by omega),show 65535=2 ^ 16 - 1 from rfl,Nat.and_two_pow_sub_one_eq_mod,show 2 ^ 16=65536 from rfl]
    dsimp -iota only
    refine CallsA.liftKE (H0:=[nB B,f12B]) [4,3] ([.dead,.dead,.dead,f12B,nB B]) ⟨rfl,rfl,trivial⟩ rfl ⟨rfl,rfl,congrArg some (f12E _),rfl,trivial⟩ rfl (sRun1W w0 (Nat.mod_lt _ (by decide)) (by omega) hq8 hBS) ?_
    rintro _ _ ⟨rfl,rfl⟩
    refine ⟨.o (.c (.val (.int .i64 (at12 (B.drop (j*s.ratio / 65536)) ((j*s.ratio % 65536:Nat):Int))))),[rB I.e.2 s,sB ys,nB I.fir,f12B,nB B],rfl,⟨rfl,rfl,rfl,rfl,rfl,trivial⟩,?_⟩
    have hv15:=rnd_bd15 hvb
    generalize at12 (B.drop (j*s.ratio / 65536)) ((j*s.ratio % 65536:Nat):Int)=t at hvb hv15 hnext ⊢
    conv=>whnf
    refine callV (sRoundedW w0 (k:=15) (by unfold iB at hvb; omega) (by decide) (by decide)) rfl ?_
    conv=>whnf
    refine callV (sSatW w0 hv15) rfl ?_
    conv=>whnf
    generalize satI (rnd t 15)=v at hnext ⊢
    refine ⟨by decide,Int,encI .i16,[],[v],fun _=>rfl,⟨rfl,rfl,rfl⟩,by show 1*2≤_; decide,by show 1≤_; decide,?_⟩
    conv=>whnf
    dsimp -iota only
    rw [show IntKind.i64.wrap (((j*s.ratio:Nat):Int)+(s.ratio:Int))=(((j+1)*s.ratio:Nat):Int) from hadv]
    refine ⟨⟨j+1,(cntI_lt hR).2 h4⟩,?_,Nat.sub_lt_sub_left ((cntI_lt hR).2 h4) (Nat.lt_succ_self j)⟩
    dsimp -iota only
    rw [hnext,← List.append_assoc,hA0]
    exact ⟨[0,1,2,3,4,6],⟨rfl,⟨rfl,rfl,rfl,rfl,rfl,rfl,congrArg some (f12E _),rfl,rfl,rfl,rfl,rfl,trivial⟩,rfl⟩,rfl,rfl,rfl,rfl,rfl,rfl,rfl,rfl,rfl,rfl,trivial⟩
   have h4:=lt_f h4
   have hlt:0<cntI (m*2*65536) s.ratio:=(cntI_lt hR).2 (by omega)
   have hje:¬ j<cntI (m*2*65536) s.ratio:=fun h=>absurd ((cntI_lt hR).1 h) (by omega)
   have:=congrArg List.length hA0
   rw [List.length_append,List.length_take,firL_length] at this
   exact absurd this (by show _≠0; omega)
  have hAp:0<(I.acc++(firL at12 15 s.ratio (m*2*65536) B).take j).length:=List.length_pos_iff.2 hA0
  rw [outS_pos hA0,show outV 5 (I.acc++(firL at12 15 s.ratio (m*2*65536) B).take j).length = .vec 5 (I.acc++(firL at12 15 s.ratio (m*2*65536) B).take j).length from outV_pos hAp]
  conv=>whnf
  rw [hlim]
  refine ⟨fun h4 => ?_,fun h4 => ?_⟩
  ·have h4:=lt_t h4
   have hq:((j*s.ratio:Nat):Int).fdiv (2 ^ min 16 IntKind.i64.bits)=((j*s.ratio / 65536:Nat):Int):=by
    rw [show min 16 IntKind.i64.bits=16 from rfl,show (2:Int) ^ 16=65536 from rfl,Int.fdiv_eq_ediv_of_nonneg _ (by omega)]
    omega
   have hq8:j*s.ratio / 65536+8≤B.length:=by omega
   have hnext:=hgap h4
   have hadv:IntKind.i64.wrap (((j*s.ratio:Nat):Int)+(s.ratio:Int))=(((j+1)*s.ratio:Nat):Int):=by
    rw [Nat.add_mul,Nat.one_mul,wi64 (by omega)]
    omega
   have hvb:=at12_bd hBS (o:=j*s.ratio / 65536) (p:=j*s.ratio % 65536) (Nat.mod_lt _ (by decide))
   conv=>whnf
   rw [hq]
   refine ⟨⟨Int.natCast_nonneg _,Int.ofNat_le.2 (by omega),Int.le_refl _⟩,Or.inl ⟨fun cc hc1 hc2 => ?_,fun hh=>absurd hh (by omega),fun hh=>absurd hh (by omega)⟩⟩
   conv=>whnf
   rw [nandi (by omega) (by omega),show 65535=2 ^ 16 - 1 from rfl,Nat.and_two_pow_sub_one_eq_mod,show 2 ^ 16=65536 from rfl]
   dsimp -iota only
   refine CallsA.liftKE (H0:=[nB B,f12B]) [4,3] ([.dead,.dead,.dead,f12B,nB B,.dead]) ⟨rfl,rfl,trivial⟩ rfl ⟨rfl,rfl,congrArg some (f12E _),rfl,trivial⟩ rfl (sRun1W w0 (Nat.mod_lt _ (by decide)) (by omega) hq8 hBS) ?_
   rintro _ _ ⟨rfl,rfl⟩
   refine ⟨.o (.c (.val (.int .i64 (at12 (B.drop (j*s.ratio / 65536)) ((j*s.ratio % 65536:Nat):Int))))),[rB I.e.2 s,sB ys,nB I.fir,f12B,nB B,sB (I.acc++(firL at12 15 s.ratio (m*2*65536) B).take j)],rfl,⟨rfl,rfl,rfl,rfl,rfl,rfl,trivial⟩,?_⟩
   have hv15:=rnd_bd15 hvb
   generalize at12 (B.drop (j*s.ratio / 65536)) ((j*s.ratio % 65536:Nat):Int)=t at hvb hv15 hnext ⊢
   conv=>whnf
   refine callV (sRoundedW w0 (k:=15) (by unfold iB at hvb; omega) (by decide) (by decide)) rfl ?_
   conv=>whnf
   refine callV (sSatW w0 hv15) rfl ?_
   conv=>whnf
   generalize satI (rnd t 15)=v at hnext ⊢
   refine ⟨rfl,[v],⟨rfl,rfl,rfl⟩,by show _*2≤_; rw [List.length_append]; show (_+1)*2≤_; omega,by rw [List.length_append]; show _+1≤_; omega,?_⟩
   conv=>whnf
   dsimp -iota only
   rw [show IntKind.i64.wrap (((j*s.ratio:Nat):Int)+(s.ratio:Int))=(((j+1)*s.ratio:Nat):Int) from hadv]
   refine ⟨⟨j+1,(cntI_lt hR).2 h4⟩,?_,Nat.sub_lt_sub_left ((cntI_lt hR).2 h4) (Nat.lt_succ_self j)⟩
   dsimp -iota only
   rw [hnext,← List.append_assoc,outV_pos (n:=(I.acc++(firL at12 15 s.ratio (m*2*65536) B).take j++[v]).length) (by rw [List.length_append]; exact Nat.succ_pos _),outS_pos (l:=I.acc++(firL at12 15 s.ratio (m*2*65536) B).take j++[v]) (by simp)]
   exact ⟨[0,1,2,3,4,7],⟨rfl,⟨rfl,rfl,rfl,rfl,rfl,rfl,congrArg some (f12E _),rfl,rfl,rfl,rfl,rfl,trivial⟩,rfl⟩,rfl,rfl,rfl,rfl,rfl,rfl,rfl,rfl,rfl,rfl,trivial⟩
  have h4:=lt_f h4
  have hje:¬ j<cntI (m*2*65536) s.ratio:=fun h=>absurd ((cntI_lt hR).1 h) (by omega)
  have hm2:IntKind.i64.wrap ((m:Int)*((2:Nat):Int))=((m*2:Nat):Int):=by rw [wi64 (by omega)]; omega
  rw [List.take_of_length_le (by rw [firL_length]; omega)] at hAp hacj ⊢
  conv=>whnf
  rw [hm2]
  refine ⟨⟨Int.natCast_nonneg _,Int.ofNat_le.2 (by omega),Int.le_refl _⟩,Or.inl ⟨fun cc hc1 hc2 => ?_,fun hh=>absurd hh (by omega),fun hh=>absurd hh (by omega)⟩⟩
  conv=>whnf
  have e8:((B.drop (m*2)).take I.fir.length).length=8:=by rw [hf',List.length_take,List.length_drop]; omega
  have hBd:B.drop (m*2)=(B.drop (m*2)).take I.fir.length:=(List.take_of_length_le (by rw [List.length_drop]; omega)).symm
  have hsz:((m*2:Nat):Int).toNat=m*2:=Int.toNat_natCast _
  have hsB:((B.length:Nat):Int).toNat - ((m*2:Nat):Int).toNat=I.fir.length:=by rw [Int.toNat_natCast,Int.toNat_natCast]; omega
  refine ⟨by rw [hfn,hf'],(B.drop (m*2)).take I.fir.length,?_,by rw [e8,hfn]; exact Nat.le_refl _,?_⟩
  ·refine ⟨rfl,rfl,?_,?_,?_⟩
   ·rw [hsB,hsz]; omega
   ·rw [hsB,e8,hf']
   rw [hsB,hsz]
  conv=>whnf
  rw [List.drop_of_length_le (l:=I.fir) (by rw [e8]; exact Nat.le_of_eq hf'),List.append_nil]
  refine ⟨trivial,?_⟩
  conv=>whnf
  dsimp -iota only
  have hzn:(I.next (by omega) (by omega)).z.Ok:=by rw [show (I.next (by omega) (by omega)).z=I.e.2 from rfl,← he]; exact dbl_ok hz' hx2
  have hfl:(I.next (by omega) (by omega)).fir.length=8:=by
   have:(I.next (by omega) (by omega)).fir=((I.fir++I.e.1).drop (I.m*2)).take I.fir.length:=rfl
   rw [this,hB,hjm,e8]
  have hfS2:∀ x∈(I.next (by omega) (by omega)).fir,S16 x:=by
   have:(I.next (by omega) (by omega)).fir=((I.fir++I.e.1).drop (I.m*2)).take I.fir.length:=rfl
   rw [this,hB,hjm]
   exact fun x hx'=>hBS x (List.mem_of_mem_drop (List.mem_of_mem_take hx'))
  have hdn:xs.drop (I.next (by omega) (by omega)).d=(xs.drop I.d).drop m:=by
   have:(I.next (by omega) (by omega)).d=I.d+I.m:=rfl
   rw [this,List.drop_drop,hjm]
  have hmd:I.m=m:=hjm
  refine ⟨⟨Int.natCast_nonneg _,Int.ofNat_le.2 (by omega),Int.ofNat_le.2 hc⟩,?_⟩
  conv=>whnf
  subst hB hjm
  have hcb:0<10*s.from_:=by omega
  have hac:0<(I.next hjd hcb).acc.length:=hAp
  have hin2:=InS.mem (ys:=ys) (m:=I.m) hc (by omega) hin
  rw [← hdn] at hin2
  refine ⟨⟨I.next hjd hcb,_,hin2,hzn,hfl,hfS2⟩,?_,?_⟩
  ·dsimp -iota only
   rw [outV_pos (n:=(I.next hjd hcb).acc.length) hac,outS_pos (l:=(I.next hjd hcb).acc) (List.ne_nil_of_length_pos hac)]
   exact ⟨[0,1,2,3,5],⟨rfl,⟨rfl,rfl,rfl,rfl,rfl,rfl,congrArg some (f12E _),rfl,rfl,rfl,trivial⟩,rfl⟩,rfl,rfl,rfl,rfl,rfl,rfl,rfl,trivial⟩
  show xs.length - (I.d+I.m)<_
  omega
 have h3:xs.length≤I.d:=by have:=of_decide_eq_false h3; rw [List.length_drop] at this; omega
 have hfi:=I.fin h3
 change batI (10*s.from_) s.ratio z fir xs=_ at hfi
 conv=>whnf
 refine Or.inl ⟨?_,?_⟩
 ·rw [hfi]
  dsimp -iota only
  generalize I.acc.length=q
  cases q <;> rfl
 rw [hfi]
def AtOk (w0:World) (w L parts:Nat) (co:List Int) (at_:List Int→Int→Int):Prop := ∀ (o n c p:Nat) (buf:List Int),p<65536→w≤n→o+w≤buf.length→(∀ x∈buf,iB 150000000 x) →
 iB 2000000000 (at_ (buf.drop o) (p:Nat))∧CallsA Tryz.prog w0 63 [.c (.sli 0 1 o n c),.c (.val (.int .i64 p)),.c (.ptr 1 0),.c (.ptr 2 0)] [nB buf,boxP parts,boxF L,tcB co] fun r H=>r = .o (.c (.val (.int .i64 (at_ (buf.drop o) p))))∧H=[nB buf,boxP parts,boxF L,tcB co]
theorem rnd_bd6 {a:Int} (h:iB 2000000000 a):-9223372036854775808≤rnd a 6∧rnd a 6≤9223372036854775807:=by
 unfold rnd
 rw [show (2:Int) ^ (6 - 1)=32 from rfl,Int.fdiv_eq_ediv_of_nonneg _ (by omega),Int.fdiv_eq_ediv_of_nonneg _ (by omega)]
 unfold iB at h
 omega
theorem InS.ren8 {w0:World} {iv:CV} {ys xs:List Int} (h:InS w0 iv ys xs):some (AV.o (.c iv))=some ((AV.o (.c iv)).ren [0,1,2,3,4,5,6,7]):=by
 rcases h with ⟨o,c,rfl,_⟩ | ⟨a,c,rfl,_⟩ <;> rfl
structure BDx (kd w:Nat) (at_:List Int→Int→Int) (w0:World) (ys:List Int) (bs R:Nat) (z0:Int × Int) (f0 xs:List Int) where
 I:IBat (arRun kd) 1 bs R 6 at_ z0 f0 xs
 iv:CV
 hin:InS w0 iv ys (xs.drop I.d)
 hz:ArK kd I.z
 hf:I.fir.length=w
 hfS:∀ x∈I.fir,iB 150000000 x
def bdS (co:List Int) (L parts:Nat) (iv:CV) (z:Int × Int) (s:Sr) (ys fir B:List Int) (m:Nat) (A:List Int) (p:Nat):S :=
 ⟨[(0,.o (.c (.ptr 0 0))),(1,.o (.c iv)),(2,.o (.c (.clo 61 [(4,0),(5,0)]))),(3,.o (.c (.val (.int .i64 ((1:Nat):Int))))),(4,.o (.c (.val (.int .i64 ((6:Nat):Int))))),(5,.o (.c (.clo 63 [(6,0),(7,0)]))),(13,.o (.c (outV 9 A.length))),(14,.o (.c (.val (.int .i64 m)))),(15,.o (.c (.vec 8 B.length))),(16,.o (.c (.val (.int .i64 (p:Int)))))],
  [rB (zA z) s,sB ys,nB fir,tcB co,boxR,boxT L,boxP parts,boxF L,nB B]++outS A⟩
theorem batDW (w0:World) {iv:CV} {ys xs fir co:List Int} {at_:List Int→Int→Int} {kd w L parts:Nat} {z:Int × Int} {s:Sr} (hat:AtOk w0 w L parts co at_) (hw0:0<w) (hw:w≤36) (hL:1<L) (hcl:co.length=L) (hc0:co[0]? = some (tapsAR kd).1) (hc1:co[1]? = some (tapsAR kd).2) (hin:InS w0 iv ys xs) (hx:∀ x∈xs,S16 x) (hz:ArK kd z) (hfr:s.from_=8∨s.from_=12∨s.from_=16) (hR:0<s.ratio) (hR1:s.ratio≤500000) (hf:fir.length=w) (hfn:s.fn=w) (hfS:∀ x∈fir,iB 150000000 x) (hbig:xs.length≤1000000) (hbo:(batD kd at_ (10*s.from_) s.ratio z fir xs).1.length≤100000000) :
 CallsA Tryz.prog w0 58 [.c (.ptr 0 0),.c iv,.c (.clo 61 [(4,0),(5,0)]),.c (.val (.int .i64 ((1:Nat):Int))),.c (.val (.int .i64 ((6:Nat):Int))),.c (.clo 63 [(6,0),(7,0)])] [rB (zA z) s,sB ys,nB fir,tcB co,boxR,boxT L,boxP parts,boxF L]
  fun r H=>r = .o (.c (outV 8 (batD kd at_ (10*s.from_) s.ratio z fir xs).1.length))∧H=[rB (zA (batD kd at_ (10*s.from_) s.ratio z fir xs).2.1) s,sB ys,nB (batD kd at_ (10*s.from_) s.ratio z fir xs).2.2,tcB co,boxR,boxT L,boxP parts,boxF L]++outS (batD kd at_ (10*s.from_) s.ratio z fir xs).1:=by
 refine callsA_of_ev c58_ ?_
 conv=>whnf
 refine Or.inl ?_
 conv=>whnf
 refine ⟨BDx kd w at_ w0 ys (10*s.from_) s.ratio z fir xs,fun j=>⟨[(0,.o (.c (.ptr 0 0))),(1,.o (.c j.iv)),(2,.o (.c (.clo 61 [(4,0),(5,0)]))),(3,.o (.c (.val (.int .i64 ((1:Nat):Int))))),(4,.o (.c (.val (.int .i64 ((6:Nat):Int))))),(5,.o (.c (.clo 63 [(6,0),(7,0)]))),(13,.o (.c (outV 8 j.I.acc.length)))],[rB (zA j.I.z) s,sB ys,nB j.I.fir,tcB co,boxR,boxT L,boxP parts,boxF L]++outS j.I.acc⟩,fun j=>xs.length - j.I.d,⟨⟨⟨xs.length,[],z,fir,0,rfl,Nat.zero_le _,Nat.le_refl _⟩,iv,hin,hz,hf,hfS⟩,[0,1,2,3,4,5,6,7],⟨rfl,⟨rfl,rfl,rfl,rfl,rfl,rfl,congrArg some (tcE co _),rfl,rfl,rfl,rfl,rfl,rfl,rfl,rfl,rfl,trivial⟩,rfl⟩,rfl,(InS.ren8 hin),rfl,rfl,rfl,rfl,rfl,trivial⟩,fun j => ?_⟩
 obtain ⟨I,iv,hin,hz',hf',hfS'⟩:=j
 rcases hin with ⟨o,c,rfl,hc,hin⟩ | ⟨a,c,rfl,hc,hin⟩
 ·conv=>whnf
  refine ⟨fun h3 => ?_,fun h3 => ?_⟩
  ·have hdl:(xs.drop I.d).length=xs.length - I.d:=List.length_drop
   have hjd:I.d<xs.length:=by have:=of_decide_eq_true h3; omega
   obtain ⟨m,hm⟩:∃ m,m=min (xs.drop I.d).length (10*s.from_):=⟨_,rfl⟩
   have hjm:I.m=m:=by unfold IBat.m; rw [hm,List.length_drop]
   have h10:IntKind.i64.wrap (((10:Nat):Int)*(s.from_:Int))=((10*s.from_:Nat):Int):=by rw [wi64 (by omega)]; omega
   conv=>whnf
   rw [h10,mn_eq,← hm]
   have he:arRun kd I.z ((xs.drop I.d).take m)=I.e:=by unfold IBat.e; rw [hjm]
   have hx2:∀ x∈(xs.drop I.d).take m,S16 x:=fun x hx'=>hx x (List.mem_of_mem_drop (List.mem_of_mem_take hx'))
   have hlen2:((xs.drop I.d).take m).length=m:=by rw [List.length_take]; omega
   have hel:I.e.1.length=m:=by rw [← he,arRun_len,hlen2]
   have hm0:0<m:=by omega
   refine Or.inr ⟨Unit,fun _=>⟨[(0,.o (.c (.ptr 0 0))),(1,.o (.c ((.sli 1 1 o (xs.drop I.d).length c)))),(2,.o (.c (.clo 61 [(4,0),(5,0)]))),(3,.o (.c (.val (.int .i64 ((1:Nat):Int))))),(4,.o (.c (.val (.int .i64 ((6:Nat):Int))))),(5,.o (.c (.clo 63 [(6,0),(7,0)]))),(13,.o (.c (outV 9 I.acc.length))),(14,.o (.c (.val (.int .i64 m)))),(15,.o (.c (.vec 8 (I.fir++I.e.1).length)))],[rB (zA I.e.2) s,sB ys,nB I.fir,tcB co,boxR,boxT L,boxP parts,boxF L,nB (I.fir++I.e.1)]++outS I.acc⟩,?_,fun _=>?_⟩
   ·by_cases hne:I.acc=[]
    ·rw [hne]
     conv=>whnf
     refine ⟨?_,?_⟩
     ·conv=>whnf
      refine ⟨by decide,Int,encI .i64,[],fun _=>rfl,?_⟩
      conv=>whnf
      refine ⟨⟨⟨rfl,rfl⟩,trivial⟩,?_⟩
      conv=>whnf
      refine ⟨?_,?_⟩
      ·conv=>whnf
       refine ⟨rfl,I.fir,⟨rfl,by rw [hfn,hf']; exact Nat.le_refl _,by rw [hfn,hf'],by rw [hfn]; exact congrArg (flat (encI .i64) []) (List.take_of_length_le (l:=I.fir) (Nat.le_of_eq hf')).symm⟩,by rw [List.nil_append,hf']; omega,by rw [List.nil_append,hf']; omega,?_⟩
       conv=>whnf
       refine ⟨trivial,?_⟩
       conv=>whnf
       refine ⟨⟨by omega,by omega,by omega⟩,?_⟩
       conv=>whnf
       refine ⟨fun _=>?_,fun h1 h2=>absurd h2 (by omega)⟩
       conv=>whnf
       refine ⟨trivial,?_⟩
       conv=>whnf
       dsimp -iota only
       refine CallsA.liftKE (H0:=[rB (zA I.z) s,sB ys,.dead,tcB co,boxR,boxT L]) [0,1,2,3,4,5] ([rB (zA I.z) s,sB ys,.dead,tcB co,boxR,boxT L,.dead,.dead,.dead,.dead]) ⟨rfl,rfl,rfl,rfl,rfl,trivial⟩ rfl ⟨rfl,rfl,rfl,rfl,lk 10 rfl rfl,congrArg some (tcE co _),rfl,rfl,rfl,rfl,rfl,trivial⟩ rfl (sRun2W w0 (iv:=_) (xs:=(xs.drop I.d).take m) (ys:=ys) (s:=s) ((.inl ⟨o,c,by rw [hlen2],fun k x hk=>hin k x (tkd hk)⟩)) hx2 hz' hL hcl hc0 hc1 (by omega)) ?_
       rintro _ _ ⟨rfl,rfl⟩
       rw [he,outV_pos (by omega),outB_pos (by intro h; rw [h] at hel; simp at hel; omega)]
       refine ⟨.o (.c (.vec 10 I.e.1.length)),[rB (zA I.e.2) s,sB ys,nB I.fir,tcB co,boxR,boxT L,boxP parts,boxF L,.dead,nB I.fir,nB I.e.1],rfl,⟨rfl,rfl,rfl,(tcE co _).symm,rfl,rfl,rfl,rfl,rfl,rfl,rfl,trivial⟩,?_⟩
       conv=>whnf
       refine ⟨trivial,?_⟩
       conv=>whnf
       refine ⟨rfl,I.e.1,⟨rfl,Nat.le_refl _,rfl,by rw [List.take_length]⟩,by rw [List.length_append,hf',hel]; omega,by rw [List.length_append,hf',hel]; omega,?_⟩
       conv=>whnf
       refine ⟨trivial,?_⟩
       conv=>whnf
       exact ⟨(),[0,1,2,3,4,5,6,7,11],⟨rfl,⟨rfl,rfl,rfl,rfl,rfl,rfl,congrArg some (tcE co _),rfl,rfl,rfl,rfl,rfl,rfl,rfl,rfl,rfl,rfl,rfl,trivial⟩,rfl⟩,rfl,rfl,rfl,rfl,rfl,rfl,rfl,rfl,rfl,trivial⟩
      conv=>whnf
      refine ⟨⟨by omega,by omega,by omega⟩,?_⟩
      conv=>whnf
      refine ⟨fun _=>?_,fun h1 h2=>absurd h2 (by omega)⟩
      conv=>whnf
      refine ⟨⟨⟨rfl,rfl⟩,trivial⟩,?_⟩
      conv=>whnf
      refine ⟨rfl,I.fir,⟨rfl,by rw [hfn,hf']; exact Nat.le_refl _,by rw [hfn,hf'],by rw [hfn]; exact congrArg (flat (encI .i64) []) (List.take_of_length_le (l:=I.fir) (Nat.le_of_eq hf')).symm⟩,by rw [List.nil_append,hf']; omega,by rw [List.nil_append,hf']; omega,?_⟩
      conv=>whnf
      refine ⟨trivial,?_⟩
      conv=>whnf
      dsimp -iota only
      refine CallsA.liftKE (H0:=[rB (zA I.z) s,sB ys,.dead,tcB co,boxR,boxT L]) [0,1,2,3,4,5] ([rB (zA I.z) s,sB ys,.dead,tcB co,boxR,boxT L,.dead,.dead,.dead,.dead]) ⟨rfl,rfl,rfl,rfl,rfl,trivial⟩ rfl ⟨rfl,rfl,rfl,rfl,lk 10 rfl rfl,congrArg some (tcE co _),rfl,rfl,rfl,rfl,rfl,trivial⟩ rfl (sRun2W w0 (iv:=_) (xs:=(xs.drop I.d).take m) (ys:=ys) (s:=s) ((.inl ⟨o,c,by rw [hlen2],fun k x hk=>hin k x (tkd hk)⟩)) hx2 hz' hL hcl hc0 hc1 (by omega)) ?_
      rintro _ _ ⟨rfl,rfl⟩
      rw [he,outV_pos (by omega),outB_pos (by intro h; rw [h] at hel; simp at hel; omega)]
      refine ⟨.o (.c (.vec 10 I.e.1.length)),[rB (zA I.e.2) s,sB ys,nB I.fir,tcB co,boxR,boxT L,boxP parts,boxF L,.dead,nB I.fir,nB I.e.1],rfl,⟨rfl,rfl,rfl,(tcE co _).symm,rfl,rfl,rfl,rfl,rfl,rfl,rfl,trivial⟩,?_⟩
      conv=>whnf
      refine ⟨trivial,?_⟩
      conv=>whnf
      refine ⟨rfl,I.e.1,⟨rfl,Nat.le_refl _,rfl,by rw [List.take_length]⟩,by rw [List.length_append,hf',hel]; omega,by rw [List.length_append,hf',hel]; omega,?_⟩
      conv=>whnf
      refine ⟨trivial,?_⟩
      conv=>whnf
      exact ⟨(),[0,1,2,3,4,5,6,7,11],⟨rfl,⟨rfl,rfl,rfl,rfl,rfl,rfl,congrArg some (tcE co _),rfl,rfl,rfl,rfl,rfl,rfl,rfl,rfl,rfl,rfl,rfl,trivial⟩,rfl⟩,rfl,rfl,rfl,rfl,rfl,rfl,rfl,rfl,rfl,trivial⟩
     conv=>whnf
     refine ⟨⟨by omega,by omega,by omega⟩,?_⟩
     conv=>whnf
     refine ⟨fun _=>?_,fun h1 h2=>absurd h2 (by omega)⟩
     conv=>whnf
     refine ⟨⟨⟨rfl,rfl⟩,trivial⟩,?_⟩
     conv=>whnf
     refine ⟨by decide,Int,encI .i64,[],fun _=>rfl,?_⟩
     conv=>whnf
     refine ⟨⟨⟨rfl,rfl⟩,trivial⟩,?_⟩
     conv=>whnf
     refine ⟨rfl,I.fir,⟨rfl,by rw [hfn,hf']; exact Nat.le_refl _,by rw [hfn,hf'],by rw [hfn]; exact congrArg (flat (encI .i64) []) (List.take_of_length_le (l:=I.fir) (Nat.le_of_eq hf')).symm⟩,by rw [List.nil_append,hf']; omega,by rw [List.nil_append,hf']; omega,?_⟩
     conv=>whnf
     refine ⟨trivial,?_⟩
     conv=>whnf
     dsimp -iota only
     refine CallsA.liftKE (H0:=[rB (zA I.z) s,sB ys,.dead,tcB co,boxR,boxT L]) [0,1,2,3,4,5] ([rB (zA I.z) s,sB ys,.dead,tcB co,boxR,boxT L,.dead,.dead,.dead,.dead]) ⟨rfl,rfl,rfl,rfl,rfl,trivial⟩ rfl ⟨rfl,rfl,rfl,rfl,lk 10 rfl rfl,congrArg some (tcE co _),rfl,rfl,rfl,rfl,rfl,trivial⟩ rfl (sRun2W w0 (iv:=_) (xs:=(xs.drop I.d).take m) (ys:=ys) (s:=s) ((.inl ⟨o,c,by rw [hlen2],fun k x hk=>hin k x (tkd hk)⟩)) hx2 hz' hL hcl hc0 hc1 (by omega)) ?_
     rintro _ _ ⟨rfl,rfl⟩
     rw [he,outV_pos (by omega),outB_pos (by intro h; rw [h] at hel; simp at hel; omega)]
     refine ⟨.o (.c (.vec 10 I.e.1.length)),[rB (zA I.e.2) s,sB ys,nB I.fir,tcB co,boxR,boxT L,boxP parts,boxF L,.dead,nB I.fir,nB I.e.1],rfl,⟨rfl,rfl,rfl,(tcE co _).symm,rfl,rfl,rfl,rfl,rfl,rfl,rfl,trivial⟩,?_⟩
     conv=>whnf
     refine ⟨trivial,?_⟩
     conv=>whnf
     refine ⟨rfl,I.e.1,⟨rfl,Nat.le_refl _,rfl,by rw [List.take_length]⟩,by rw [List.length_append,hf',hel]; omega,by rw [List.length_append,hf',hel]; omega,?_⟩
     conv=>whnf
     refine ⟨trivial,?_⟩
     conv=>whnf
     exact ⟨(),[0,1,2,3,4,5,6,7,11],⟨rfl,⟨rfl,rfl,rfl,rfl,rfl,rfl,congrArg some (tcE co _),rfl,rfl,rfl,rfl,rfl,rfl,rfl,rfl,rfl,rfl,rfl,trivial⟩,rfl⟩,rfl,rfl,rfl,rfl,rfl,rfl,rfl,rfl,rfl,trivial⟩
    have hnp:0<I.acc.length:=List.length_pos_iff.2 hne
    rw [show outV 8 I.acc.length = .vec 8 I.acc.length from outV_pos hnp,show outV 9 I.acc.length = .vec 9 I.acc.length from outV_pos hnp,outS_pos hne]
    conv=>whnf
    refine ⟨?_,?_⟩
    ·conv=>whnf
     refine ⟨by decide,Int,encI .i64,[],fun _=>rfl,?_⟩
     conv=>whnf
     refine ⟨⟨⟨rfl,rfl⟩,trivial⟩,?_⟩
     conv=>whnf
     refine ⟨?_,?_⟩
     ·conv=>whnf
      refine ⟨rfl,I.fir,⟨rfl,by rw [hfn,hf']; exact Nat.le_refl _,by rw [hfn,hf'],by rw [hfn]; exact congrArg (flat (encI .i64) []) (List.take_of_length_le (l:=I.fir) (Nat.le_of_eq hf')).symm⟩,by rw [List.nil_append,hf']; omega,by rw [List.nil_append,hf']; omega,?_⟩
      conv=>whnf
      refine ⟨trivial,?_⟩
      conv=>whnf
      refine ⟨⟨by omega,by omega,by omega⟩,?_⟩
      conv=>whnf
      refine ⟨fun _=>?_,fun h1 h2=>absurd h2 (by omega)⟩
      conv=>whnf
      refine ⟨trivial,?_⟩
      conv=>whnf
      dsimp -iota only
      refine CallsA.liftKE (H0:=[rB (zA I.z) s,sB ys,.dead,tcB co,boxR,boxT L]) [0,1,2,3,4,5] ([rB (zA I.z) s,sB ys,.dead,tcB co,boxR,boxT L,.dead,.dead,.dead,.dead,.dead]) ⟨rfl,rfl,rfl,rfl,rfl,trivial⟩ rfl ⟨rfl,rfl,rfl,rfl,lk 11 rfl rfl,congrArg some (tcE co _),rfl,rfl,rfl,rfl,rfl,trivial⟩ rfl (sRun2W w0 (iv:=_) (xs:=(xs.drop I.d).take m) (ys:=ys) (s:=s) ((.inl ⟨o,c,by rw [hlen2],fun k x hk=>hin k x (tkd hk)⟩)) hx2 hz' hL hcl hc0 hc1 (by omega)) ?_
      rintro _ _ ⟨rfl,rfl⟩
      rw [he,outV_pos (by omega),outB_pos (by intro h; rw [h] at hel; simp at hel; omega)]
      refine ⟨.o (.c (.vec 11 I.e.1.length)),[rB (zA I.e.2) s,sB ys,nB I.fir,tcB co,boxR,boxT L,boxP parts,boxF L,sB I.acc,.dead,nB I.fir,nB I.e.1],rfl,⟨rfl,rfl,rfl,(tcE co _).symm,rfl,rfl,rfl,rfl,rfl,rfl,rfl,rfl,trivial⟩,?_⟩
      conv=>whnf
      refine ⟨trivial,?_⟩
      conv=>whnf
      refine ⟨rfl,I.e.1,⟨rfl,Nat.le_refl _,rfl,by rw [List.take_length]⟩,by rw [List.length_append,hf',hel]; omega,by rw [List.length_append,hf',hel]; omega,?_⟩
      conv=>whnf
      refine ⟨trivial,?_⟩
      conv=>whnf
      exact ⟨(),[0,1,2,3,4,5,6,7,12,8],⟨rfl,⟨rfl,rfl,rfl,rfl,rfl,rfl,congrArg some (tcE co _),rfl,rfl,rfl,rfl,rfl,rfl,rfl,rfl,rfl,rfl,rfl,rfl,rfl,trivial⟩,rfl⟩,rfl,rfl,rfl,rfl,rfl,rfl,rfl,rfl,rfl,trivial⟩
     conv=>whnf
     refine ⟨⟨by omega,by omega,by omega⟩,?_⟩
     conv=>whnf
     refine ⟨fun _=>?_,fun h1 h2=>absurd h2 (by omega)⟩
     conv=>whnf
     refine ⟨⟨⟨rfl,rfl⟩,trivial⟩,?_⟩
     conv=>whnf
     refine ⟨rfl,I.fir,⟨rfl,by rw [hfn,hf']; exact Nat.le_refl _,by rw [hfn,hf'],by rw [hfn]; exact congrArg (flat (encI .i64) []) (List.take_of_length_le (l:=I.fir) (Nat.le_of_eq hf')).symm⟩,by rw [List.nil_append,hf']; omega,by rw [List.nil_append,hf']; omega,?_⟩
     conv=>whnf
     refine ⟨trivial,?_⟩
     conv=>whnf
     dsimp -iota only
     refine CallsA.liftKE (H0:=[rB (zA I.z) s,sB ys,.dead,tcB co,boxR,boxT L]) [0,1,2,3,4,5] ([rB (zA I.z) s,sB ys,.dead,tcB co,boxR,boxT L,.dead,.dead,.dead,.dead,.dead]) ⟨rfl,rfl,rfl,rfl,rfl,trivial⟩ rfl ⟨rfl,rfl,rfl,rfl,lk 11 rfl rfl,congrArg some (tcE co _),rfl,rfl,rfl,rfl,rfl,trivial⟩ rfl (sRun2W w0 (iv:=_) (xs:=(xs.drop I.d).take m) (ys:=ys) (s:=s) ((.inl ⟨o,c,by rw [hlen2],fun k x hk=>hin k x (tkd hk)⟩)) hx2 hz' hL hcl hc0 hc1 (by omega)) ?_
     rintro _ _ ⟨rfl,rfl⟩
     rw [he,outV_pos (by omega),outB_pos (by intro h; rw [h] at hel; simp at hel; omega)]
     refine ⟨.o (.c (.vec 11 I.e.1.length)),[rB (zA I.e.2) s,sB ys,nB I.fir,tcB co,boxR,boxT L,boxP parts,boxF L,sB I.acc,.dead,nB I.fir,nB I.e.1],rfl,⟨rfl,rfl,rfl,(tcE co _).symm,rfl,rfl,rfl,rfl,rfl,rfl,rfl,rfl,trivial⟩,?_⟩
     conv=>whnf
     refine ⟨trivial,?_⟩
     conv=>whnf
     refine ⟨rfl,I.e.1,⟨rfl,Nat.le_refl _,rfl,by rw [List.take_length]⟩,by rw [List.length_append,hf',hel]; omega,by rw [List.length_append,hf',hel]; omega,?_⟩
     conv=>whnf
     refine ⟨trivial,?_⟩
     conv=>whnf
     exact ⟨(),[0,1,2,3,4,5,6,7,12,8],⟨rfl,⟨rfl,rfl,rfl,rfl,rfl,rfl,congrArg some (tcE co _),rfl,rfl,rfl,rfl,rfl,rfl,rfl,rfl,rfl,rfl,rfl,rfl,rfl,trivial⟩,rfl⟩,rfl,rfl,rfl,rfl,rfl,rfl,rfl,rfl,rfl,trivial⟩
    conv=>whnf
    refine ⟨⟨by omega,by omega,by omega⟩,?_⟩
    conv=>whnf
    refine ⟨fun _=>?_,fun h1 h2=>absurd h2 (by omega)⟩
    conv=>whnf
    refine ⟨⟨⟨rfl,rfl⟩,trivial⟩,?_⟩
    conv=>whnf
    refine ⟨by decide,Int,encI .i64,[],fun _=>rfl,?_⟩
    conv=>whnf
    refine ⟨⟨⟨rfl,rfl⟩,trivial⟩,?_⟩
    conv=>whnf
    refine ⟨rfl,I.fir,⟨rfl,by rw [hfn,hf']; exact Nat.le_refl _,by rw [hfn,hf'],by rw [hfn]; exact congrArg (flat (encI .i64) []) (List.take_of_length_le (l:=I.fir) (Nat.le_of_eq hf')).symm⟩,by rw [List.nil_append,hf']; omega,by rw [List.nil_append,hf']; omega,?_⟩
    conv=>whnf
    refine ⟨trivial,?_⟩
    conv=>whnf
    dsimp -iota only
    refine CallsA.liftKE (H0:=[rB (zA I.z) s,sB ys,.dead,tcB co,boxR,boxT L]) [0,1,2,3,4,5] ([rB (zA I.z) s,sB ys,.dead,tcB co,boxR,boxT L,.dead,.dead,.dead,.dead,.dead]) ⟨rfl,rfl,rfl,rfl,rfl,trivial⟩ rfl ⟨rfl,rfl,rfl,rfl,lk 11 rfl rfl,congrArg some (tcE co _),rfl,rfl,rfl,rfl,rfl,trivial⟩ rfl (sRun2W w0 (iv:=_) (xs:=(xs.drop I.d).take m) (ys:=ys) (s:=s) ((.inl ⟨o,c,by rw [hlen2],fun k x hk=>hin k x (tkd hk)⟩)) hx2 hz' hL hcl hc0 hc1 (by omega)) ?_
    rintro _ _ ⟨rfl,rfl⟩
    rw [he,outV_pos (by omega),outB_pos (by intro h; rw [h] at hel; simp at hel; omega)]
    refine ⟨.o (.c (.vec 11 I.e.1.length)),[rB (zA I.e.2) s,sB ys,nB I.fir,tcB co,boxR,boxT L,boxP parts,boxF L,sB I.acc,.dead,nB I.fir,nB I.e.1],rfl,⟨rfl,rfl,rfl,(tcE co _).symm,rfl,rfl,rfl,rfl,rfl,rfl,rfl,rfl,trivial⟩,?_⟩
    conv=>whnf
    refine ⟨trivial,?_⟩
    conv=>whnf
    refine ⟨rfl,I.e.1,⟨rfl,Nat.le_refl _,rfl,by rw [List.take_length]⟩,by rw [List.length_append,hf',hel]; omega,by rw [List.length_append,hf',hel]; omega,?_⟩
    conv=>whnf
    refine ⟨trivial,?_⟩
    conv=>whnf
    exact ⟨(),[0,1,2,3,4,5,6,7,12,8],⟨rfl,⟨rfl,rfl,rfl,rfl,rfl,rfl,congrArg some (tcE co _),rfl,rfl,rfl,rfl,rfl,rfl,rfl,rfl,rfl,rfl,rfl,rfl,rfl,trivial⟩,rfl⟩,rfl,rfl,rfl,rfl,rfl,rfl,rfl,rfl,rfl,trivial⟩
   have hBl:(I.fir++I.e.1).length=w+m:=by rw [List.length_append,hf',hel]
   have hBS:∀ x∈I.fir++I.e.1,iB 150000000 x:=by
    intro x hx'
    rcases List.mem_append.1 hx' with h | h
    ·exact hfS' x h
    rw [← he] at h; exact arRun_bd hz' hx2 x h
   have hlim:IntKind.i64.wrap (IntKind.i64.wrap ((m:Int)*((1:Nat):Int))*2 ^ min 16 IntKind.i64.bits)=((m*1*65536:Nat):Int):=by
    rw [wi64 (n:=(m:Int)*((1:Nat):Int)) (by omega),show min 16 IntKind.i64.bits=16 from rfl,show (2:Int) ^ 16=65536 from rfl,wi64 (by omega)]
    omega
   have hm16:m≤160:=by omega
   have hnx:=(I.next (by omega) (by omega)).le
   have hna:(I.next (by omega) (by omega)).acc=I.acc++firL at_ 6 s.ratio (I.m*1*65536) (I.fir++I.e.1):=rfl
   rw [hna,hjm] at hnx
   change _≤(batD kd at_ (10*s.from_) s.ratio z fir xs).1.length at hnx
   generalize hB:I.fir++I.e.1=B at *
   have hacc:∀ j,(I.acc++(firL at_ 6 s.ratio (m*1*65536) B).take j).length≤100000000:=by
    intro j
    rw [List.length_append,List.length_take] at *
    omega
   conv=>whnf
   refine Or.inl ?_
   conv=>whnf
   refine ⟨{j:Nat // j≤cntI (m*1*65536) s.ratio},fun j=>bdS co L parts ((.sli 1 1 o (xs.drop I.d).length c)) I.e.2 s ys I.fir B m (I.acc++(firL at_ 6 s.ratio (m*1*65536) B).take j.1) (j.1*s.ratio),fun j=>cntI (m*1*65536) s.ratio - j.1,⟨⟨0,Nat.zero_le _⟩,?_⟩,fun j => ?_⟩
   ·dsimp -iota only
    rw [show I.acc++(firL at_ 6 s.ratio (m*1*65536) B).take 0=I.acc by simp,Nat.zero_mul]
    by_cases hne:I.acc=[]
    ·rw [hne]
     exact ⟨[0,1,2,3,4,5,6,7,8],⟨rfl,⟨rfl,rfl,rfl,rfl,rfl,rfl,congrArg some (tcE co _),rfl,rfl,rfl,rfl,rfl,rfl,rfl,rfl,rfl,rfl,rfl,trivial⟩,rfl⟩,rfl,rfl,rfl,rfl,rfl,rfl,rfl,rfl,rfl,rfl,trivial⟩
    have hnp:0<I.acc.length:=List.length_pos_iff.2 hne
    unfold bdS
    rw [outS_pos hne,show outV 9 I.acc.length = .vec 9 I.acc.length from outV_pos hnp]
    exact ⟨[0,1,2,3,4,5,6,7,8,9],⟨rfl,⟨rfl,rfl,rfl,rfl,rfl,rfl,congrArg some (tcE co _),rfl,rfl,rfl,rfl,rfl,rfl,rfl,rfl,rfl,rfl,rfl,rfl,rfl,trivial⟩,rfl⟩,rfl,rfl,rfl,rfl,rfl,rfl,rfl,rfl,rfl,rfl,trivial⟩
   obtain ⟨j,hj⟩:=j
   dsimp -iota only [bdS]
   have hacj:=hacc j
   have hgap:∀ hp:j*s.ratio<m*1*65536,(firL at_ 6 s.ratio (m*1*65536) B).take (j+1)=(firL at_ 6 s.ratio (m*1*65536) B).take j++[satI (rnd (at_ (B.drop (j*s.ratio / 65536)) ((j*s.ratio % 65536:Nat):Int)) 6)]:=fun hp=>firL_take ((cntI_lt hR).2 hp)
   by_cases hA0:I.acc++(firL at_ 6 s.ratio (m*1*65536) B).take j=[]
   ·rw [hA0]
    conv=>whnf
    rw [hlim]
    refine ⟨fun h4 => ?_,fun h4 => ?_⟩
    ·have h4:=lt_t h4
     have hq:((j*s.ratio:Nat):Int).fdiv (2 ^ min 16 IntKind.i64.bits)=((j*s.ratio / 65536:Nat):Int):=by
      rw [show min 16 IntKind.i64.bits=16 from rfl,show (2:Int) ^ 16=65536 from rfl,Int.fdiv_eq_ediv_of_nonneg _ (by omega)]
      omega
     have hq8:j*s.ratio / 65536+w≤B.length:=by omega
     have hnext:=hgap h4
     have hadv:IntKind.i64.wrap (((j*s.ratio:Nat):Int)+(s.ratio:Int))=(((j+1)*s.ratio:Nat):Int):=by
      rw [Nat.add_mul,Nat.one_mul,wi64 (by omega)]
      omega
     have hvb:=(hat (j*s.ratio / 65536) B.length 0 (j*s.ratio % 65536) B (Nat.mod_lt _ (by decide)) (by omega) hq8 hBS).1
     conv=>whnf
     rw [hq]
     refine ⟨⟨Int.natCast_nonneg _,Int.ofNat_le.2 (by omega),Int.le_refl _⟩,Or.inl ⟨fun cc hc1 hc2 => ?_,fun hh=>absurd hh (by omega),fun hh=>absurd hh (by omega)⟩⟩
     conv=>whnf
     rw [nandi (by omega) (by omega),show 65535=2 ^ 16 - 1 from rfl,Nat.and_two_pow_sub_one_eq_mod,show 2 ^ 16=65536 from rfl]
     dsimp -iota only
     refine CallsA.liftKE (H0:=[nB B,boxP parts,boxF L,tcB co]) [8,6,7,3] ([.dead,.dead,.dead,tcB co,.dead,.dead,boxP parts,boxF L,nB B]) ⟨rfl,rfl,rfl,rfl,trivial⟩ rfl ⟨rfl,rfl,rfl,rfl,rfl,rfl,congrArg some (tcE co _),rfl,trivial⟩ rfl (hat _ _ _ _ _ (Nat.mod_lt _ (by decide)) (by omega) hq8 hBS).2 ?_
     rintro _ _ ⟨rfl,rfl⟩
     refine ⟨.o (.c (.val (.int .i64 (at_ (B.drop (j*s.ratio / 65536)) ((j*s.ratio % 65536:Nat):Int))))),[rB (zA I.e.2) s,sB ys,nB I.fir,tcB co,boxR,boxT L,boxP parts,boxF L,nB B],rfl,⟨rfl,rfl,rfl,(tcE co _).symm,rfl,rfl,rfl,rfl,rfl,trivial⟩,?_⟩
     have hv15:=rnd_bd6 hvb
     generalize at_ (B.drop (j*s.ratio / 65536)) ((j*s.ratio % 65536:Nat):Int)=t at hvb hv15 hnext ⊢
     conv=>whnf
     refine callV (sRoundedW w0 (k:=6) (by unfold iB at hvb; omega) (by decide) (by decide)) rfl ?_
     conv=>whnf
     refine callV (sSatW w0 hv15) rfl ?_
     conv=>whnf
     generalize satI (rnd t 6)=v at hnext ⊢
     refine ⟨by decide,Int,encI .i16,[],[v],fun _=>rfl,⟨rfl,rfl,rfl⟩,by show 1*2≤_; decide,by show 1≤_; decide,?_⟩
     conv=>whnf
     dsimp -iota only
     rw [show IntKind.i64.wrap (((j*s.ratio:Nat):Int)+(s.ratio:Int))=(((j+1)*s.ratio:Nat):Int) from hadv]
     refine ⟨⟨j+1,(cntI_lt hR).2 h4⟩,?_,Nat.sub_lt_sub_left ((cntI_lt hR).2 h4) (Nat.lt_succ_self j)⟩
     dsimp -iota only
     rw [hnext,← List.append_assoc,hA0]
     exact ⟨[0,1,2,3,4,5,6,7,8,10],⟨rfl,⟨rfl,rfl,rfl,rfl,rfl,rfl,congrArg some (tcE co _),rfl,rfl,rfl,rfl,rfl,rfl,rfl,rfl,rfl,rfl,rfl,rfl,rfl,trivial⟩,rfl⟩,rfl,rfl,rfl,rfl,rfl,rfl,rfl,rfl,rfl,rfl,trivial⟩
    have h4:=lt_f h4
    have hlt:0<cntI (m*1*65536) s.ratio:=(cntI_lt hR).2 (by omega)
    have hje:¬ j<cntI (m*1*65536) s.ratio:=fun h=>absurd ((cntI_lt hR).1 h) (by omega)
    have:=congrArg List.length hA0
    rw [List.length_append,List.length_take,firL_length] at this
    exact absurd this (by show _≠0; omega)
   have hAp:0<(I.acc++(firL at_ 6 s.ratio (m*1*65536) B).take j).length:=List.length_pos_iff.2 hA0
   rw [outS_pos hA0,show outV 9 (I.acc++(firL at_ 6 s.ratio (m*1*65536) B).take j).length = .vec 9 (I.acc++(firL at_ 6 s.ratio (m*1*65536) B).take j).length from outV_pos hAp]
   conv=>whnf
   rw [hlim]
   refine ⟨fun h4 => ?_,fun h4 => ?_⟩
   ·have h4:=lt_t h4
    have hq:((j*s.ratio:Nat):Int).fdiv (2 ^ min 16 IntKind.i64.bits)=((j*s.ratio / 65536:Nat):Int):=by
     rw [show min 16 IntKind.i64.bits=16 from rfl,show (2:Int) ^ 16=65536 from rfl,Int.fdiv_eq_ediv_of_nonneg _ (by omega)]
     omega
    have hq8:j*s.ratio / 65536+w≤B.length:=by omega
    have hnext:=hgap h4
    have hadv:IntKind.i64.wrap (((j*s.ratio:Nat):Int)+(s.ratio:Int))=(((j+1)*s.ratio:Nat):Int):=by
     rw [Nat.add_mul,Nat.one_mul,wi64 (by omega)]
     omega
    have hvb:=(hat (j*s.ratio / 65536) B.length 0 (j*s.ratio % 65536) B (Nat.mod_lt _ (by decide)) (by omega) hq8 hBS).1
    conv=>whnf
    rw [hq]
    refine ⟨⟨Int.natCast_nonneg _,Int.ofNat_le.2 (by omega),Int.le_refl _⟩,Or.inl ⟨fun cc hc1 hc2 => ?_,fun hh=>absurd hh (by omega),fun hh=>absurd hh (by omega)⟩⟩
    conv=>whnf
    rw [nandi (by omega) (by omega),show 65535=2 ^ 16 - 1 from rfl,Nat.and_two_pow_sub_one_eq_mod,show 2 ^ 16=65536 from rfl]
    dsimp -iota only
    refine CallsA.liftKE (H0:=[nB B,boxP parts,boxF L,tcB co]) [8,6,7,3] ([.dead,.dead,.dead,tcB co,.dead,.dead,boxP parts,boxF L,nB B,.dead]) ⟨rfl,rfl,rfl,rfl,trivial⟩ rfl ⟨rfl,rfl,rfl,rfl,rfl,rfl,congrArg some (tcE co _),rfl,trivial⟩ rfl (hat _ _ _ _ _ (Nat.mod_lt _ (by decide)) (by omega) hq8 hBS).2 ?_
    rintro _ _ ⟨rfl,rfl⟩
    refine ⟨.o (.c (.val (.int .i64 (at_ (B.drop (j*s.ratio / 65536)) ((j*s.ratio % 65536:Nat):Int))))),[rB (zA I.e.2) s,sB ys,nB I.fir,tcB co,boxR,boxT L,boxP parts,boxF L,nB B,sB (I.acc++(firL at_ 6 s.ratio (m*1*65536) B).take j)],rfl,⟨rfl,rfl,rfl,(tcE co _).symm,rfl,rfl,rfl,rfl,rfl,rfl,trivial⟩,?_⟩
    have hv15:=rnd_bd6 hvb
    generalize at_ (B.drop (j*s.ratio / 65536)) ((j*s.ratio % 65536:Nat):Int)=t at hvb hv15 hnext ⊢
    conv=>whnf
    refine callV (sRoundedW w0 (k:=6) (by unfold iB at hvb; omega) (by decide) (by decide)) rfl ?_
    conv=>whnf
    refine callV (sSatW w0 hv15) rfl ?_
    conv=>whnf
    generalize satI (rnd t 6)=v at hnext ⊢
    refine ⟨rfl,[v],⟨rfl,rfl,rfl⟩,by show _*2≤_; rw [List.length_append]; show (_+1)*2≤_; omega,by rw [List.length_append]; show _+1≤_; omega,?_⟩
    conv=>whnf
    dsimp -iota only
    rw [show IntKind.i64.wrap (((j*s.ratio:Nat):Int)+(s.ratio:Int))=(((j+1)*s.ratio:Nat):Int) from hadv]
    refine ⟨⟨j+1,(cntI_lt hR).2 h4⟩,?_,Nat.sub_lt_sub_left ((cntI_lt hR).2 h4) (Nat.lt_succ_self j)⟩
    dsimp -iota only
    rw [hnext,← List.append_assoc,outV_pos (n:=(I.acc++(firL at_ 6 s.ratio (m*1*65536) B).take j++[v]).length) (by rw [List.length_append]; exact Nat.succ_pos _),outS_pos (l:=I.acc++(firL at_ 6 s.ratio (m*1*65536) B).take j++[v]) (by simp)]
    exact ⟨[0,1,2,3,4,5,6,7,8,11],⟨rfl,⟨rfl,rfl,rfl,rfl,rfl,rfl,congrArg some (tcE co _),rfl,rfl,rfl,rfl,rfl,rfl,rfl,rfl,rfl,rfl,rfl,rfl,rfl,trivial⟩,rfl⟩,rfl,rfl,rfl,rfl,rfl,rfl,rfl,rfl,rfl,rfl,trivial⟩
   have h4:=lt_f h4
   have hje:¬ j<cntI (m*1*65536) s.ratio:=fun h=>absurd ((cntI_lt hR).1 h) (by omega)
   have hm2:IntKind.i64.wrap ((m:Int)*((1:Nat):Int))=((m*1:Nat):Int):=by rw [wi64 (by omega)]; omega
   rw [List.take_of_length_le (by rw [firL_length]; omega)] at hAp hacj ⊢
   conv=>whnf
   rw [hm2]
   refine ⟨⟨Int.natCast_nonneg _,Int.ofNat_le.2 (by omega),Int.le_refl _⟩,Or.inl ⟨fun cc hc1 hc2 => ?_,fun hh=>absurd hh (by omega),fun hh=>absurd hh (by omega)⟩⟩
   conv=>whnf
   have e8:((B.drop (m*1)).take I.fir.length).length=w:=by rw [hf',List.length_take,List.length_drop]; omega
   have hBd:B.drop (m*1)=(B.drop (m*1)).take I.fir.length:=(List.take_of_length_le (by rw [List.length_drop]; omega)).symm
   have hsz:((m*1:Nat):Int).toNat=m*1:=Int.toNat_natCast _
   have hsB:((B.length:Nat):Int).toNat - ((m*1:Nat):Int).toNat=I.fir.length:=by rw [Int.toNat_natCast,Int.toNat_natCast]; omega
   refine ⟨by rw [hfn,hf'],(B.drop (m*1)).take I.fir.length,?_,by rw [e8,hfn]; exact Nat.le_refl _,?_⟩
   ·refine ⟨rfl,rfl,?_,?_,?_⟩
    ·rw [hsB,hsz]; omega
    ·rw [hsB,e8,hf']
    rw [hsB,hsz]
   conv=>whnf
   rw [List.drop_of_length_le (l:=I.fir) (by rw [e8]; exact Nat.le_of_eq hf'),List.append_nil]
   refine ⟨trivial,?_⟩
   conv=>whnf
   dsimp -iota only
   have hzn:ArK kd (I.next (by omega) (by omega)).z:=by rw [show (I.next (by omega) (by omega)).z=I.e.2 from rfl,← he]; exact arRun_ok hz' hx2
   have hfl:(I.next (by omega) (by omega)).fir.length=w:=by
    have:(I.next (by omega) (by omega)).fir=((I.fir++I.e.1).drop (I.m*1)).take I.fir.length:=rfl
    rw [this,hB,hjm,e8]
   have hfS2:∀ x∈(I.next (by omega) (by omega)).fir,iB 150000000 x:=by
    have:(I.next (by omega) (by omega)).fir=((I.fir++I.e.1).drop (I.m*1)).take I.fir.length:=rfl
    rw [this,hB,hjm]
    exact fun x hx'=>hBS x (List.mem_of_mem_drop (List.mem_of_mem_take hx'))
   have hdn:xs.drop (I.next (by omega) (by omega)).d=(xs.drop I.d).drop m:=by
    have:(I.next (by omega) (by omega)).d=I.d+I.m:=rfl
    rw [this,List.drop_drop,hjm]
   have hmd:I.m=m:=hjm
   refine ⟨⟨Int.natCast_nonneg _,Int.ofNat_le.2 (by omega),Int.le_refl _⟩,?_⟩
   conv=>whnf
   subst hB hjm
   have hcb:0<10*s.from_:=by omega
   have hac:0<(I.next hjd hcb).acc.length:=hAp
   refine ⟨fun hc1 => ?_,fun hc1 hc2 => ?_⟩
   ·have hin2:InS w0 (.sli 1 1 (o+((I.m:Nat):Int).toNat) (((xs.drop I.d).length:Int).toNat - ((I.m:Nat):Int).toNat) (c - ((I.m:Nat):Int).toNat)) ys (xs.drop (I.next hjd hcb).d):=by
     rw [hdn,Int.toNat_natCast,Int.toNat_natCast]
     refine Or.inl ⟨o+I.m,c - I.m,by rw [List.length_drop (i:=I.m)],by rw [List.length_drop (i:=I.m)]; omega,fun k x hk => ?_⟩
     rw [Nat.add_assoc]
     rw [List.getElem?_drop] at hk
     exact hin _ _ hk
    conv=>whnf
    refine ⟨⟨I.next hjd hcb,_,hin2,hzn,hfl,hfS2⟩,?_,?_⟩
    ·dsimp -iota only
     rw [outV_pos (n:=(I.next hjd hcb).acc.length) hac,outS_pos (l:=(I.next hjd hcb).acc) (List.ne_nil_of_length_pos hac)]
     exact ⟨[0,1,2,3,4,5,6,7,9],⟨rfl,⟨rfl,rfl,rfl,rfl,rfl,rfl,congrArg some (tcE co _),rfl,rfl,rfl,rfl,rfl,rfl,rfl,rfl,rfl,rfl,rfl,trivial⟩,rfl⟩,rfl,rfl,rfl,rfl,rfl,rfl,rfl,trivial⟩
    show xs.length - (I.d+I.m)<_
    omega
   have hlm:(xs.drop I.d).length=I.m:=by omega
   have hin2:InS w0 (.sli 1 1 o 0 0) ys (xs.drop (I.next hjd hcb).d):=by
    rw [hdn,List.drop_of_length_le (Nat.le_of_eq hlm)]
    exact Or.inl ⟨o,0,rfl,Nat.le_refl _,fun k x hk=>absurd hk (by simp)⟩
   conv=>whnf
   refine ⟨⟨I.next hjd hcb,_,hin2,hzn,hfl,hfS2⟩,?_,?_⟩
   ·dsimp -iota only
    rw [outV_pos (n:=(I.next hjd hcb).acc.length) hac,outS_pos (l:=(I.next hjd hcb).acc) (List.ne_nil_of_length_pos hac)]
    exact ⟨[0,1,2,3,4,5,6,7,9],⟨rfl,⟨rfl,rfl,rfl,rfl,rfl,rfl,congrArg some (tcE co _),rfl,rfl,rfl,rfl,rfl,rfl,rfl,rfl,rfl,rfl,rfl,trivial⟩,rfl⟩,rfl,rfl,rfl,rfl,rfl,rfl,rfl,trivial⟩
   show xs.length - (I.d+I.m)<_
   omega
  have h3:xs.length≤I.d:=by have:=of_decide_eq_false h3; rw [List.length_drop] at this; omega
  have hfi:=I.fin h3
  change batD kd at_ (10*s.from_) s.ratio z fir xs=_ at hfi
  conv=>whnf
  refine Or.inl ⟨?_,?_⟩
  ·rw [hfi]
   dsimp -iota only
   generalize I.acc.length=q
   cases q <;> rfl
  rw [hfi]
 conv=>whnf
 refine ⟨fun h3 => ?_,fun h3 => ?_⟩
 ·have hdl:(xs.drop I.d).length=xs.length - I.d:=List.length_drop
  have hjd:I.d<xs.length:=by have:=of_decide_eq_true h3; omega
  obtain ⟨m,hm⟩:∃ m,m=min (xs.drop I.d).length (10*s.from_):=⟨_,rfl⟩
  have hjm:I.m=m:=by unfold IBat.m; rw [hm,List.length_drop]
  have h10:IntKind.i64.wrap (((10:Nat):Int)*(s.from_:Int))=((10*s.from_:Nat):Int):=by rw [wi64 (by omega)]; omega
  conv=>whnf
  rw [h10,mn_eq,← hm]
  have he:arRun kd I.z ((xs.drop I.d).take m)=I.e:=by unfold IBat.e; rw [hjm]
  have hx2:∀ x∈(xs.drop I.d).take m,S16 x:=fun x hx'=>hx x (List.mem_of_mem_drop (List.mem_of_mem_take hx'))
  have hlen2:((xs.drop I.d).take m).length=m:=by rw [List.length_take]; omega
  have hel:I.e.1.length=m:=by rw [← he,arRun_len,hlen2]
  have hm0:0<m:=by omega
  refine Or.inr ⟨Unit,fun _=>⟨[(0,.o (.c (.ptr 0 0))),(1,.o (.c ((.val (.slice (some a) (xs.drop I.d).length c))))),(2,.o (.c (.clo 61 [(4,0),(5,0)]))),(3,.o (.c (.val (.int .i64 ((1:Nat):Int))))),(4,.o (.c (.val (.int .i64 ((6:Nat):Int))))),(5,.o (.c (.clo 63 [(6,0),(7,0)]))),(13,.o (.c (outV 9 I.acc.length))),(14,.o (.c (.val (.int .i64 m)))),(15,.o (.c (.vec 8 (I.fir++I.e.1).length)))],[rB (zA I.e.2) s,sB ys,nB I.fir,tcB co,boxR,boxT L,boxP parts,boxF L,nB (I.fir++I.e.1)]++outS I.acc⟩,?_,fun _=>?_⟩
  ·by_cases hne:I.acc=[]
   ·rw [hne]
    conv=>whnf
    refine ⟨?_,?_⟩
    ·conv=>whnf
     refine ⟨by decide,Int,encI .i64,[],fun _=>rfl,?_⟩
     conv=>whnf
     refine ⟨⟨⟨rfl,rfl⟩,trivial⟩,?_⟩
     conv=>whnf
     refine ⟨?_,?_⟩
     ·conv=>whnf
      refine ⟨rfl,I.fir,⟨rfl,by rw [hfn,hf']; exact Nat.le_refl _,by rw [hfn,hf'],by rw [hfn]; exact congrArg (flat (encI .i64) []) (List.take_of_length_le (l:=I.fir) (Nat.le_of_eq hf')).symm⟩,by rw [List.nil_append,hf']; omega,by rw [List.nil_append,hf']; omega,?_⟩
      conv=>whnf
      refine ⟨trivial,?_⟩
      conv=>whnf
      refine ⟨⟨by omega,by omega,by omega⟩,?_⟩
      conv=>whnf
      rw [adr0]
      refine ⟨trivial,?_⟩
      conv=>whnf
      dsimp -iota only
      refine CallsA.liftKE (H0:=[rB (zA I.z) s,sB ys,.dead,tcB co,boxR,boxT L]) [0,1,2,3,4,5] ([rB (zA I.z) s,sB ys,.dead,tcB co,boxR,boxT L,.dead,.dead,.dead,.dead]) ⟨rfl,rfl,rfl,rfl,rfl,trivial⟩ rfl ⟨rfl,rfl,rfl,rfl,lk 10 rfl rfl,congrArg some (tcE co _),rfl,rfl,rfl,rfl,rfl,trivial⟩ rfl (sRun2W w0 (iv:=_) (xs:=(xs.drop I.d).take m) (ys:=ys) (s:=s) ((.inr (.inl ⟨a,c,by rw [hlen2],fun k x hk=>hin k x (tkd hk)⟩))) hx2 hz' hL hcl hc0 hc1 (by omega)) ?_
      rintro _ _ ⟨rfl,rfl⟩
      rw [he,outV_pos (by omega),outB_pos (by intro h; rw [h] at hel; simp at hel; omega)]
      refine ⟨.o (.c (.vec 10 I.e.1.length)),[rB (zA I.e.2) s,sB ys,nB I.fir,tcB co,boxR,boxT L,boxP parts,boxF L,.dead,nB I.fir,nB I.e.1],rfl,⟨rfl,rfl,rfl,(tcE co _).symm,rfl,rfl,rfl,rfl,rfl,rfl,rfl,trivial⟩,?_⟩
      conv=>whnf
      refine ⟨trivial,?_⟩
      conv=>whnf
      refine ⟨rfl,I.e.1,⟨rfl,Nat.le_refl _,rfl,by rw [List.take_length]⟩,by rw [List.length_append,hf',hel]; omega,by rw [List.length_append,hf',hel]; omega,?_⟩
      conv=>whnf
      refine ⟨trivial,?_⟩
      conv=>whnf
      exact ⟨(),[0,1,2,3,4,5,6,7,11],⟨rfl,⟨rfl,rfl,rfl,rfl,rfl,rfl,congrArg some (tcE co _),rfl,rfl,rfl,rfl,rfl,rfl,rfl,rfl,rfl,rfl,rfl,trivial⟩,rfl⟩,rfl,rfl,rfl,rfl,rfl,rfl,rfl,rfl,rfl,trivial⟩
     conv=>whnf
     refine ⟨⟨by omega,by omega,by omega⟩,?_⟩
     conv=>whnf
     rw [adr0]
     refine ⟨⟨⟨rfl,rfl⟩,trivial⟩,?_⟩
     conv=>whnf
     refine ⟨rfl,I.fir,⟨rfl,by rw [hfn,hf']; exact Nat.le_refl _,by rw [hfn,hf'],by rw [hfn]; exact congrArg (flat (encI .i64) []) (List.take_of_length_le (l:=I.fir) (Nat.le_of_eq hf')).symm⟩,by rw [List.nil_append,hf']; omega,by rw [List.nil_append,hf']; omega,?_⟩
     conv=>whnf
     refine ⟨trivial,?_⟩
     conv=>whnf
     dsimp -iota only
     refine CallsA.liftKE (H0:=[rB (zA I.z) s,sB ys,.dead,tcB co,boxR,boxT L]) [0,1,2,3,4,5] ([rB (zA I.z) s,sB ys,.dead,tcB co,boxR,boxT L,.dead,.dead,.dead,.dead]) ⟨rfl,rfl,rfl,rfl,rfl,trivial⟩ rfl ⟨rfl,rfl,rfl,rfl,lk 10 rfl rfl,congrArg some (tcE co _),rfl,rfl,rfl,rfl,rfl,trivial⟩ rfl (sRun2W w0 (iv:=_) (xs:=(xs.drop I.d).take m) (ys:=ys) (s:=s) ((.inr (.inl ⟨a,c,by rw [hlen2],fun k x hk=>hin k x (tkd hk)⟩))) hx2 hz' hL hcl hc0 hc1 (by omega)) ?_
     rintro _ _ ⟨rfl,rfl⟩
     rw [he,outV_pos (by omega),outB_pos (by intro h; rw [h] at hel; simp at hel; omega)]
     refine ⟨.o (.c (.vec 10 I.e.1.length)),[rB (zA I.e.2) s,sB ys,nB I.fir,tcB co,boxR,boxT L,boxP parts,boxF L,.dead,nB I.fir,nB I.e.1],rfl,⟨rfl,rfl,rfl,(tcE co _).symm,rfl,rfl,rfl,rfl,rfl,rfl,rfl,trivial⟩,?_⟩
     conv=>whnf
     refine ⟨trivial,?_⟩
     conv=>whnf
     refine ⟨rfl,I.e.1,⟨rfl,Nat.le_refl _,rfl,by rw [List.take_length]⟩,by rw [List.length_append,hf',hel]; omega,by rw [List.length_append,hf',hel]; omega,?_⟩
     conv=>whnf
     refine ⟨trivial,?_⟩
     conv=>whnf
     exact ⟨(),[0,1,2,3,4,5,6,7,11],⟨rfl,⟨rfl,rfl,rfl,rfl,rfl,rfl,congrArg some (tcE co _),rfl,rfl,rfl,rfl,rfl,rfl,rfl,rfl,rfl,rfl,rfl,trivial⟩,rfl⟩,rfl,rfl,rfl,rfl,rfl,rfl,rfl,rfl,rfl,trivial⟩
    conv=>whnf
    refine ⟨⟨by omega,by omega,by omega⟩,?_⟩
    conv=>whnf
    rw [adr0]
    refine ⟨⟨⟨rfl,rfl⟩,trivial⟩,?_⟩
    conv=>whnf
    refine ⟨by decide,Int,encI .i64,[],fun _=>rfl,?_⟩
    conv=>whnf
    refine ⟨⟨⟨rfl,rfl⟩,trivial⟩,?_⟩
    conv=>whnf
    refine ⟨rfl,I.fir,⟨rfl,by rw [hfn,hf']; exact Nat.le_refl _,by rw [hfn,hf'],by rw [hfn]; exact congrArg (flat (encI .i64) []) (List.take_of_length_le (l:=I.fir) (Nat.le_of_eq hf')).symm⟩,by rw [List.nil_append,hf']; omega,by rw [List.nil_append,hf']; omega,?_⟩
    conv=>whnf
    refine ⟨trivial,?_⟩
    conv=>whnf
    dsimp -iota only
    refine CallsA.liftKE (H0:=[rB (zA I.z) s,sB ys,.dead,tcB co,boxR,boxT L]) [0,1,2,3,4,5] ([rB (zA I.z) s,sB ys,.dead,tcB co,boxR,boxT L,.dead,.dead,.dead,.dead]) ⟨rfl,rfl,rfl,rfl,rfl,trivial⟩ rfl ⟨rfl,rfl,rfl,rfl,lk 10 rfl rfl,congrArg some (tcE co _),rfl,rfl,rfl,rfl,rfl,trivial⟩ rfl (sRun2W w0 (iv:=_) (xs:=(xs.drop I.d).take m) (ys:=ys) (s:=s) ((.inr (.inl ⟨a,c,by rw [hlen2],fun k x hk=>hin k x (tkd hk)⟩))) hx2 hz' hL hcl hc0 hc1 (by omega)) ?_
    rintro _ _ ⟨rfl,rfl⟩
    rw [he,outV_pos (by omega),outB_pos (by intro h; rw [h] at hel; simp at hel; omega)]
    refine ⟨.o (.c (.vec 10 I.e.1.length)),[rB (zA I.e.2) s,sB ys,nB I.fir,tcB co,boxR,boxT L,boxP parts,boxF L,.dead,nB I.fir,nB I.e.1],rfl,⟨rfl,rfl,rfl,(tcE co _).symm,rfl,rfl,rfl,rfl,rfl,rfl,rfl,trivial⟩,?_⟩
    conv=>whnf
    refine ⟨trivial,?_⟩
    conv=>whnf
    refine ⟨rfl,I.e.1,⟨rfl,Nat.le_refl _,rfl,by rw [List.take_length]⟩,by rw [List.length_append,hf',hel]; omega,by rw [List.length_append,hf',hel]; omega,?_⟩
    conv=>whnf
    refine ⟨trivial,?_⟩
    conv=>whnf
    exact ⟨(),[0,1,2,3,4,5,6,7,11],⟨rfl,⟨rfl,rfl,rfl,rfl,rfl,rfl,congrArg some (tcE co _),rfl,rfl,rfl,rfl,rfl,rfl,rfl,rfl,rfl,rfl,rfl,trivial⟩,rfl⟩,rfl,rfl,rfl,rfl,rfl,rfl,rfl,rfl,rfl,trivial⟩
   have hnp:0<I.acc.length:=List.length_pos_iff.2 hne
   rw [show outV 8 I.acc.length = .vec 8 I.acc.length from outV_pos hnp,show outV 9 I.acc.length = .vec 9 I.acc.length from outV_pos hnp,outS_pos hne]
   conv=>whnf
   refine ⟨?_,?_⟩
   ·conv=>whnf
    refine ⟨by decide,Int,encI .i64,[],fun _=>rfl,?_⟩
    conv=>whnf
    refine ⟨⟨⟨rfl,rfl⟩,trivial⟩,?_⟩
    conv=>whnf
    refine ⟨?_,?_⟩
    ·conv=>whnf
     refine ⟨rfl,I.fir,⟨rfl,by rw [hfn,hf']; exact Nat.le_refl _,by rw [hfn,hf'],by rw [hfn]; exact congrArg (flat (encI .i64) []) (List.take_of_length_le (l:=I.fir) (Nat.le_of_eq hf')).symm⟩,by rw [List.nil_append,hf']; omega,by rw [List.nil_append,hf']; omega,?_⟩
     conv=>whnf
     refine ⟨trivial,?_⟩
     conv=>whnf
     refine ⟨⟨by omega,by omega,by omega⟩,?_⟩
     conv=>whnf
     rw [adr0]
     refine ⟨trivial,?_⟩
     conv=>whnf
     dsimp -iota only
     refine CallsA.liftKE (H0:=[rB (zA I.z) s,sB ys,.dead,tcB co,boxR,boxT L]) [0,1,2,3,4,5] ([rB (zA I.z) s,sB ys,.dead,tcB co,boxR,boxT L,.dead,.dead,.dead,.dead,.dead]) ⟨rfl,rfl,rfl,rfl,rfl,trivial⟩ rfl ⟨rfl,rfl,rfl,rfl,lk 11 rfl rfl,congrArg some (tcE co _),rfl,rfl,rfl,rfl,rfl,trivial⟩ rfl (sRun2W w0 (iv:=_) (xs:=(xs.drop I.d).take m) (ys:=ys) (s:=s) ((.inr (.inl ⟨a,c,by rw [hlen2],fun k x hk=>hin k x (tkd hk)⟩))) hx2 hz' hL hcl hc0 hc1 (by omega)) ?_
     rintro _ _ ⟨rfl,rfl⟩
     rw [he,outV_pos (by omega),outB_pos (by intro h; rw [h] at hel; simp at hel; omega)]
     refine ⟨.o (.c (.vec 11 I.e.1.length)),[rB (zA I.e.2) s,sB ys,nB I.fir,tcB co,boxR,boxT L,boxP parts,boxF L,sB I.acc,.dead,nB I.fir,nB I.e.1],rfl,⟨rfl,rfl,rfl,(tcE co _).symm,rfl,rfl,rfl,rfl,rfl,rfl,rfl,rfl,trivial⟩,?_⟩
     conv=>whnf
     refine ⟨trivial,?_⟩
     conv=>whnf
     refine ⟨rfl,I.e.1,⟨rfl,Nat.le_refl _,rfl,by rw [List.take_length]⟩,by rw [List.length_append,hf',hel]; omega,by rw [List.length_append,hf',hel]; omega,?_⟩
     conv=>whnf
     refine ⟨trivial,?_⟩
     conv=>whnf
     exact ⟨(),[0,1,2,3,4,5,6,7,12,8],⟨rfl,⟨rfl,rfl,rfl,rfl,rfl,rfl,congrArg some (tcE co _),rfl,rfl,rfl,rfl,rfl,rfl,rfl,rfl,rfl,rfl,rfl,rfl,rfl,trivial⟩,rfl⟩,rfl,rfl,rfl,rfl,rfl,rfl,rfl,rfl,rfl,trivial⟩
    conv=>whnf
    refine ⟨⟨by omega,by omega,by omega⟩,?_⟩
    conv=>whnf
    rw [adr0]
    refine ⟨⟨⟨rfl,rfl⟩,trivial⟩,?_⟩
    conv=>whnf
    refine ⟨rfl,I.fir,⟨rfl,by rw [hfn,hf']; exact Nat.le_refl _,by rw [hfn,hf'],by rw [hfn]; exact congrArg (flat (encI .i64) []) (List.take_of_length_le (l:=I.fir) (Nat.le_of_eq hf')).symm⟩,by rw [List.nil_append,hf']; omega,by rw [List.nil_append,hf']; omega,?_⟩
    conv=>whnf
    refine ⟨trivial,?_⟩
    conv=>whnf
    dsimp -iota only
    refine CallsA.liftKE (H0:=[rB (zA I.z) s,sB ys,.dead,tcB co,boxR,boxT L]) [0,1,2,3,4,5] ([rB (zA I.z) s,sB ys,.dead,tcB co,boxR,boxT L,.dead,.dead,.dead,.dead,.dead]) ⟨rfl,rfl,rfl,rfl,rfl,trivial⟩ rfl ⟨rfl,rfl,rfl,rfl,lk 11 rfl rfl,congrArg some (tcE co _),rfl,rfl,rfl,rfl,rfl,trivial⟩ rfl (sRun2W w0 (iv:=_) (xs:=(xs.drop I.d).take m) (ys:=ys) (s:=s) ((.inr (.inl ⟨a,c,by rw [hlen2],fun k x hk=>hin k x (tkd hk)⟩))) hx2 hz' hL hcl hc0 hc1 (by omega)) ?_
    rintro _ _ ⟨rfl,rfl⟩
    rw [he,outV_pos (by omega),outB_pos (by intro h; rw [h] at hel; simp at hel; omega)]
    refine ⟨.o (.c (.vec 11 I.e.1.length)),[rB (zA I.e.2) s,sB ys,nB I.fir,tcB co,boxR,boxT L,boxP parts,boxF L,sB I.acc,.dead,nB I.fir,nB I.e.1],rfl,⟨rfl,rfl,rfl,(tcE co _).symm,rfl,rfl,rfl,rfl,rfl,rfl,rfl,rfl,trivial⟩,?_⟩
    conv=>whnf
    refine ⟨trivial,?_⟩
    conv=>whnf
    refine ⟨rfl,I.e.1,⟨rfl,Nat.le_refl _,rfl,by rw [List.take_length]⟩,by rw [List.length_append,hf',hel]; omega,by rw [List.length_append,hf',hel]; omega,?_⟩
    conv=>whnf
    refine ⟨trivial,?_⟩
    conv=>whnf
    exact ⟨(),[0,1,2,3,4,5,6,7,12,8],⟨rfl,⟨rfl,rfl,rfl,rfl,rfl,rfl,congrArg some (tcE co _),rfl,rfl,rfl,rfl,rfl,rfl,rfl,rfl,rfl,rfl,rfl,rfl,rfl,trivial⟩,rfl⟩,rfl,rfl,rfl,rfl,rfl,rfl,rfl,rfl,rfl,trivial⟩
   conv=>whnf
   refine ⟨⟨by omega,by omega,by omega⟩,?_⟩
   conv=>whnf
   rw [adr0]
   refine ⟨⟨⟨rfl,rfl⟩,trivial⟩,?_⟩
   conv=>whnf
   refine ⟨by decide,Int,encI .i64,[],fun _=>rfl,?_⟩
   conv=>whnf
   refine ⟨⟨⟨rfl,rfl⟩,trivial⟩,?_⟩
   conv=>whnf
   refine ⟨rfl,I.fir,⟨rfl,by rw [hfn,hf']; exact Nat.le_refl _,by rw [hfn,hf'],by rw [hfn]; exact congrArg (flat (encI .i64) []) (List.take_of_length_le (l:=I.fir) (Nat.le_of_eq hf')).symm⟩,by rw [List.nil_append,hf']; omega,by rw [List.nil_append,hf']; omega,?_⟩
   conv=>whnf
   refine ⟨trivial,?_⟩
   conv=>whnf
   dsimp -iota only
   refine CallsA.liftKE (H0:=[rB (zA I.z) s,sB ys,.dead,tcB co,boxR,boxT L]) [0,1,2,3,4,5] ([rB (zA I.z) s,sB ys,.dead,tcB co,boxR,boxT L,.dead,.dead,.dead,.dead,.dead]) ⟨rfl,rfl,rfl,rfl,rfl,trivial⟩ rfl ⟨rfl,rfl,rfl,rfl,lk 11 rfl rfl,congrArg some (tcE co _),rfl,rfl,rfl,rfl,rfl,trivial⟩ rfl (sRun2W w0 (iv:=_) (xs:=(xs.drop I.d).take m) (ys:=ys) (s:=s) ((.inr (.inl ⟨a,c,by rw [hlen2],fun k x hk=>hin k x (tkd hk)⟩))) hx2 hz' hL hcl hc0 hc1 (by omega)) ?_
   rintro _ _ ⟨rfl,rfl⟩
   rw [he,outV_pos (by omega),outB_pos (by intro h; rw [h] at hel; simp at hel; omega)]
   refine ⟨.o (.c (.vec 11 I.e.1.length)),[rB (zA I.e.2) s,sB ys,nB I.fir,tcB co,boxR,boxT L,boxP parts,boxF L,sB I.acc,.dead,nB I.fir,nB I.e.1],rfl,⟨rfl,rfl,rfl,(tcE co _).symm,rfl,rfl,rfl,rfl,rfl,rfl,rfl,rfl,trivial⟩,?_⟩
   conv=>whnf
   refine ⟨trivial,?_⟩
   conv=>whnf
   refine ⟨rfl,I.e.1,⟨rfl,Nat.le_refl _,rfl,by rw [List.take_length]⟩,by rw [List.length_append,hf',hel]; omega,by rw [List.length_append,hf',hel]; omega,?_⟩
   conv=>whnf
   refine ⟨trivial,?_⟩
   conv=>whnf
   exact ⟨(),[0,1,2,3,4,5,6,7,12,8],⟨rfl,⟨rfl,rfl,rfl,rfl,rfl,rfl,congrArg some (tcE co _),rfl,rfl,rfl,rfl,rfl,rfl,rfl,rfl,rfl,rfl,rfl,rfl,rfl,trivial⟩,rfl⟩,rfl,rfl,rfl,rfl,rfl,rfl,rfl,rfl,rfl,trivial⟩
  have hBl:(I.fir++I.e.1).length=w+m:=by rw [List.length_append,hf',hel]
  have hBS:∀ x∈I.fir++I.e.1,iB 150000000 x:=by
   intro x hx'
   rcases List.mem_append.1 hx' with h | h
   ·exact hfS' x h
   rw [← he] at h; exact arRun_bd hz' hx2 x h
  have hlim:IntKind.i64.wrap (IntKind.i64.wrap ((m:Int)*((1:Nat):Int))*2 ^ min 16 IntKind.i64.bits)=((m*1*65536:Nat):Int):=by
   rw [wi64 (n:=(m:Int)*((1:Nat):Int)) (by omega),show min 16 IntKind.i64.bits=16 from rfl,show (2:Int) ^ 16=65536 from rfl,wi64 (by omega)]
   omega
  have hm16:m≤160:=by omega
  have hnx:=(I.next (by omega) (by omega)).le
  have hna:(I.next (by omega) (by omega)).acc=I.acc++firL at_ 6 s.ratio (I.m*1*65536) (I.fir++I.e.1):=rfl
  rw [hna,hjm] at hnx
  change _≤(batD kd at_ (10*s.from_) s.ratio z fir xs).1.length at hnx
  generalize hB:I.fir++I.e.1=B at *
  have hacc:∀ j,(I.acc++(firL at_ 6 s.ratio (m*1*65536) B).take j).length≤100000000:=by
   intro j
   rw [List.length_append,List.length_take] at *
   omega
  conv=>whnf
  refine Or.inl ?_
  conv=>whnf
  refine ⟨{j:Nat // j≤cntI (m*1*65536) s.ratio},fun j=>bdS co L parts ((.val (.slice (some a) (xs.drop I.d).length c))) I.e.2 s ys I.fir B m (I.acc++(firL at_ 6 s.ratio (m*1*65536) B).take j.1) (j.1*s.ratio),fun j=>cntI (m*1*65536) s.ratio - j.1,⟨⟨0,Nat.zero_le _⟩,?_⟩,fun j => ?_⟩
  ·dsimp -iota only
   rw [show I.acc++(firL at_ 6 s.ratio (m*1*65536) B).take 0=I.acc by simp,Nat.zero_mul]
   by_cases hne:I.acc=[]
   ·rw [hne]
    exact ⟨[0,1,2,3,4,5,6,7,8],⟨rfl,⟨rfl,rfl,rfl,rfl,rfl,rfl,congrArg some (tcE co _),rfl,rfl,rfl,rfl,rfl,rfl,rfl,rfl,rfl,rfl,rfl,trivial⟩,rfl⟩,rfl,rfl,rfl,rfl,rfl,rfl,rfl,rfl,rfl,rfl,trivial⟩
   have hnp:0<I.acc.length:=List.length_pos_iff.2 hne
   unfold bdS
   rw [outS_pos hne,show outV 9 I.acc.length = .vec 9 I.acc.length from outV_pos hnp]
   exact ⟨[0,1,2,3,4,5,6,7,8,9],⟨rfl,⟨rfl,rfl,rfl,rfl,rfl,rfl,congrArg some (tcE co _),rfl,rfl,rfl,rfl,rfl,rfl,rfl,rfl,rfl,rfl,rfl,rfl,rfl,trivial⟩,rfl⟩,rfl,rfl,rfl,rfl,rfl,rfl,rfl,rfl,rfl,rfl,trivial⟩
  obtain ⟨j,hj⟩:=j
  dsimp -iota only [bdS]
  have hacj:=hacc j
  have hgap:∀ hp:j*s.ratio<m*1*65536,(firL at_ 6 s.ratio (m*1*65536) B).take (j+1)=(firL at_ 6 s.ratio (m*1*65536) B).take j++[satI (rnd (at_ (B.drop (j*s.ratio / 65536)) ((j*s.ratio % 65536:Nat):Int)) 6)]:=fun hp=>firL_take ((cntI_lt hR).2 hp)
  by_cases hA0:I.acc++(firL at_ 6 s.ratio (m*1*65536) B).take j=[]
  ·rw [hA0]
   conv=>whnf
   rw [hlim]
   refine ⟨fun h4 => ?_,fun h4 => ?_⟩
   ·have h4:=lt_t h4
    have hq:((j*s.ratio:Nat):Int).fdiv (2 ^ min 16 IntKind.i64.bits)=((j*s.ratio / 65536:Nat):Int):=by
     rw [show min 16 IntKind.i64.bits=16 from rfl,show (2:Int) ^ 16=65536 from rfl,Int.fdiv_eq_ediv_of_nonneg _ (by omega)]
     omega
    have hq8:j*s.ratio / 65536+w≤B.length:=by omega
    have hnext:=hgap h4
    have hadv:IntKind.i64.wrap (((j*s.ratio:Nat):Int)+(s.ratio:Int))=(((j+1)*s.ratio:Nat):Int):=by
     rw [Nat.add_mul,Nat.one_mul,wi64 (by omega)]
     omega
    have hvb:=(hat (j*s.ratio / 65536) B.length 0 (j*s.ratio % 65536) B (Nat.mod_lt _ (by decide)) (by omega) hq8 hBS).1
    conv=>whnf
    rw [hq]
    refine ⟨⟨Int.natCast_nonneg _,Int.ofNat_le.2 (by omega),Int.le_refl _⟩,Or.inl ⟨fun cc hc1 hc2 => ?_,fun hh=>absurd hh (by omega),fun hh=>absurd hh (by omega)⟩⟩
    conv=>whnf
    rw [nandi (by omega) (by omega),show 65535=2 ^ 16 - 1 from rfl,Nat.and_two_pow_sub_one_eq_mod,show 2 ^ 16=65536 from rfl]
    dsimp -iota only
    refine CallsA.liftKE (H0:=[nB B,boxP parts,boxF L,tcB co]) [8,6,7,3] ([.dead,.dead,.dead,tcB co,.dead,.dead,boxP parts,boxF L,nB B]) ⟨rfl,rfl,rfl,rfl,trivial⟩ rfl ⟨rfl,rfl,rfl,rfl,rfl,rfl,congrArg some (tcE co _),rfl,trivial⟩ rfl (hat _ _ _ _ _ (Nat.mod_lt _ (by decide)) (by omega) hq8 hBS).2 ?_
    rintro _ _ ⟨rfl,rfl⟩
    refine ⟨.o (.c (.val (.int .i64 (at_ (B.drop (j*s.ratio / 65536)) ((j*s.ratio % 65536:Nat):Int))))),[rB (zA I.e.2) s,sB ys,nB I.fir,tcB co,boxR,boxT L,boxP parts,boxF L,nB B],rfl,⟨rfl,rfl,rfl,(tcE co _).symm,rfl,rfl,rfl,rfl,rfl,trivial⟩,?_⟩
    have hv15:=rnd_bd6 hvb
    generalize at_ (B.drop (j*s.ratio / 65536)) ((j*s.ratio % 65536:Nat):Int)=t at hvb hv15 hnext ⊢
    conv=>whnf
    refine callV (sRoundedW w0 (k:=6) (by unfold iB at hvb; omega) (by decide) (by decide)) rfl ?_
    conv=>whnf
    refine callV (sSatW w0 hv15) rfl ?_
    conv=>whnf
    generalize satI (rnd t 6)=v at hnext ⊢
    refine ⟨by decide,Int,encI .i16,[],[v],fun _=>rfl,⟨rfl,rfl,rfl⟩,by show 1*2≤_; decide,by show 1≤_; decide,?_⟩
    conv=>whnf
    dsimp -iota only
    rw [show IntKind.i64.wrap (((j*s.ratio:Nat):Int)+(s.ratio:Int))=(((j+1)*s.ratio:Nat):Int) from hadv]
    refine ⟨⟨j+1,(cntI_lt hR).2 h4⟩,?_,Nat.sub_lt_sub_left ((cntI_lt hR).2 h4) (Nat.lt_succ_self j)⟩
    dsimp -iota only
    rw [hnext,← List.append_assoc,hA0]
    exact ⟨[0,1,2,3,4,5,6,7,8,10],⟨rfl,⟨rfl,rfl,rfl,rfl,rfl,rfl,congrArg some (tcE co _),rfl,rfl,rfl,rfl,rfl,rfl,rfl,rfl,rfl,rfl,rfl,rfl,rfl,trivial⟩,rfl⟩,rfl,rfl,rfl,rfl,rfl,rfl,rfl,rfl,rfl,rfl,trivial⟩
   have h4:=lt_f h4
   have hlt:0<cntI (m*1*65536) s.ratio:=(cntI_lt hR).2 (by omega)
   have hje:¬ j<cntI (m*1*65536) s.ratio:=fun h=>absurd ((cntI_lt hR).1 h) (by omega)
   have:=congrArg List.length hA0
   rw [List.length_append,List.length_take,firL_length] at this
   exact absurd this (by show _≠0; omega)
  have hAp:0<(I.acc++(firL at_ 6 s.ratio (m*1*65536) B).take j).length:=List.length_pos_iff.2 hA0
  rw [outS_pos hA0,show outV 9 (I.acc++(firL at_ 6 s.ratio (m*1*65536) B).take j).length = .vec 9 (I.acc++(firL at_ 6 s.ratio (m*1*65536) B).take j).length from outV_pos hAp]
  conv=>whnf
  rw [hlim]
  refine ⟨fun h4 => ?_,fun h4 => ?_⟩
  ·have h4:=lt_t h4
   have hq:((j*s.ratio:Nat):Int).fdiv (2 ^ min 16 IntKind.i64.bits)=((j*s.ratio / 65536:Nat):Int):=by
    rw [show min 16 IntKind.i64.bits=16 from rfl,show (2:Int) ^ 16=65536 from rfl,Int.fdiv_eq_ediv_of_nonneg _ (by omega)]
    omega
   have hq8:j*s.ratio / 65536+w≤B.length:=by omega
   have hnext:=hgap h4
   have hadv:IntKind.i64.wrap (((j*s.ratio:Nat):Int)+(s.ratio:Int))=(((j+1)*s.ratio:Nat):Int):=by
    rw [Nat.add_mul,Nat.one_mul,wi64 (by omega)]
    omega
   have hvb:=(hat (j*s.ratio / 65536) B.length 0 (j*s.ratio % 65536) B (Nat.mod_lt _ (by decide)) (by omega) hq8 hBS).1
   conv=>whnf
   rw [hq]
   refine ⟨⟨Int.natCast_nonneg _,Int.ofNat_le.2 (by omega),Int.le_refl _⟩,Or.inl ⟨fun cc hc1 hc2 => ?_,fun hh=>absurd hh (by omega),fun hh=>absurd hh (by omega)⟩⟩
   conv=>whnf
   rw [nandi (by omega) (by omega),show 65535=2 ^ 16 - 1 from rfl,Nat.and_two_pow_sub_one_eq_mod,show 2 ^ 16=65536 from rfl]
   dsimp -iota only
   refine CallsA.liftKE (H0:=[nB B,boxP parts,boxF L,tcB co]) [8,6,7,3] ([.dead,.dead,.dead,tcB co,.dead,.dead,boxP parts,boxF L,nB B,.dead]) ⟨rfl,rfl,rfl,rfl,trivial⟩ rfl ⟨rfl,rfl,rfl,rfl,rfl,rfl,congrArg some (tcE co _),rfl,trivial⟩ rfl (hat _ _ _ _ _ (Nat.mod_lt _ (by decide)) (by omega) hq8 hBS).2 ?_
   rintro _ _ ⟨rfl,rfl⟩
   refine ⟨.o (.c (.val (.int .i64 (at_ (B.drop (j*s.ratio / 65536)) ((j*s.ratio % 65536:Nat):Int))))),[rB (zA I.e.2) s,sB ys,nB I.fir,tcB co,boxR,boxT L,boxP parts,boxF L,nB B,sB (I.acc++(firL at_ 6 s.ratio (m*1*65536) B).take j)],rfl,⟨rfl,rfl,rfl,(tcE co _).symm,rfl,rfl,rfl,rfl,rfl,rfl,trivial⟩,?_⟩
   have hv15:=rnd_bd6 hvb
   generalize at_ (B.drop (j*s.ratio / 65536)) ((j*s.ratio % 65536:Nat):Int)=t at hvb hv15 hnext ⊢
   conv=>whnf
   refine callV (sRoundedW w0 (k:=6) (by unfold iB at hvb; omega) (by decide) (by decide)) rfl ?_
   conv=>whnf
   refine callV (sSatW w0 hv15) rfl ?_
   conv=>whnf
   generalize satI (rnd t 6)=v at hnext ⊢
   refine ⟨rfl,[v],⟨rfl,rfl,rfl⟩,by show _*2≤_; rw [List.length_append]; show (_+1)*2≤_; omega,by rw [List.length_append]; show _+1≤_; omega,?_⟩
   conv=>whnf
   dsimp -iota only
   rw [show IntKind.i64.wrap (((j*s.ratio:Nat):Int)+(s.ratio:Int))=(((j+1)*s.ratio:Nat):Int) from hadv]
   refine ⟨⟨j+1,(cntI_lt hR).2 h4⟩,?_,Nat.sub_lt_sub_left ((cntI_lt hR).2 h4) (Nat.lt_succ_self j)⟩
   dsimp -iota only
   rw [hnext,← List.append_assoc,outV_pos (n:=(I.acc++(firL at_ 6 s.ratio (m*1*65536) B).take j++[v]).length) (by rw [List.length_append]; exact Nat.succ_pos _),outS_pos (l:=I.acc++(firL at_ 6 s.ratio (m*1*65536) B).take j++[v]) (by simp)]
   exact ⟨[0,1,2,3,4,5,6,7,8,11],⟨rfl,⟨rfl,rfl,rfl,rfl,rfl,rfl,congrArg some (tcE co _),rfl,rfl,rfl,rfl,rfl,rfl,rfl,rfl,rfl,rfl,rfl,rfl,rfl,trivial⟩,rfl⟩,rfl,rfl,rfl,rfl,rfl,rfl,rfl,rfl,rfl,rfl,trivial⟩
  have h4:=lt_f h4
  have hje:¬ j<cntI (m*1*65536) s.ratio:=fun h=>absurd ((cntI_lt hR).1 h) (by omega)
  have hm2:IntKind.i64.wrap ((m:Int)*((1:Nat):Int))=((m*1:Nat):Int):=by rw [wi64 (by omega)]; omega
  rw [List.take_of_length_le (by rw [firL_length]; omega)] at hAp hacj ⊢
  conv=>whnf
  rw [hm2]
  refine ⟨⟨Int.natCast_nonneg _,Int.ofNat_le.2 (by omega),Int.le_refl _⟩,Or.inl ⟨fun cc hc1 hc2 => ?_,fun hh=>absurd hh (by omega),fun hh=>absurd hh (by omega)⟩⟩
  conv=>whnf
  have e8:((B.drop (m*1)).take I.fir.length).length=w:=by rw [hf',List.length_take,List.length_drop]; omega
  have hBd:B.drop (m*1)=(B.drop (m*1)).take I.fir.length:=(List.take_of_length_le (by rw [List.length_drop]; omega)).symm
  have hsz:((m*1:Nat):Int).toNat=m*1:=Int.toNat_natCast _
  have hsB:((B.length:Nat):Int).toNat - ((m*1:Nat):Int).toNat=I.fir.length:=by rw [Int.toNat_natCast,Int.toNat_natCast]; omega
  refine ⟨by rw [hfn,hf'],(B.drop (m*1)).take I.fir.length,?_,by rw [e8,hfn]; exact Nat.le_refl _,?_⟩
  ·refine ⟨rfl,rfl,?_,?_,?_⟩
   ·rw [hsB,hsz]; omega
   ·rw [hsB,e8,hf']
   rw [hsB,hsz]
  conv=>whnf
  rw [List.drop_of_length_le (l:=I.fir) (by rw [e8]; exact Nat.le_of_eq hf'),List.append_nil]
  refine ⟨trivial,?_⟩
  conv=>whnf
  dsimp -iota only
  have hzn:ArK kd (I.next (by omega) (by omega)).z:=by rw [show (I.next (by omega) (by omega)).z=I.e.2 from rfl,← he]; exact arRun_ok hz' hx2
  have hfl:(I.next (by omega) (by omega)).fir.length=w:=by
   have:(I.next (by omega) (by omega)).fir=((I.fir++I.e.1).drop (I.m*1)).take I.fir.length:=rfl
   rw [this,hB,hjm,e8]
  have hfS2:∀ x∈(I.next (by omega) (by omega)).fir,iB 150000000 x:=by
   have:(I.next (by omega) (by omega)).fir=((I.fir++I.e.1).drop (I.m*1)).take I.fir.length:=rfl
   rw [this,hB,hjm]
   exact fun x hx'=>hBS x (List.mem_of_mem_drop (List.mem_of_mem_take hx'))
  have hdn:xs.drop (I.next (by omega) (by omega)).d=(xs.drop I.d).drop m:=by
   have:(I.next (by omega) (by omega)).d=I.d+I.m:=rfl
   rw [this,List.drop_drop,hjm]
  have hmd:I.m=m:=hjm
  refine ⟨⟨Int.natCast_nonneg _,Int.ofNat_le.2 (by omega),Int.ofNat_le.2 hc⟩,?_⟩
  conv=>whnf
  subst hB hjm
  have hcb:0<10*s.from_:=by omega
  have hac:0<(I.next hjd hcb).acc.length:=hAp
  have hin2:=InS.mem (ys:=ys) (m:=I.m) hc (by omega) hin
  rw [← hdn] at hin2
  refine ⟨⟨I.next hjd hcb,_,hin2,hzn,hfl,hfS2⟩,?_,?_⟩
  ·dsimp -iota only
   rw [outV_pos (n:=(I.next hjd hcb).acc.length) hac,outS_pos (l:=(I.next hjd hcb).acc) (List.ne_nil_of_length_pos hac)]
   exact ⟨[0,1,2,3,4,5,6,7,9],⟨rfl,⟨rfl,rfl,rfl,rfl,rfl,rfl,congrArg some (tcE co _),rfl,rfl,rfl,rfl,rfl,rfl,rfl,rfl,rfl,rfl,rfl,trivial⟩,rfl⟩,rfl,rfl,rfl,rfl,rfl,rfl,rfl,trivial⟩
  show xs.length - (I.d+I.m)<_
  omega
 have h3:xs.length≤I.d:=by have:=of_decide_eq_false h3; rw [List.length_drop] at this; omega
 have hfi:=I.fin h3
 change batD kd at_ (10*s.from_) s.ratio z fir xs=_ at hfi
 conv=>whnf
 refine Or.inl ⟨?_,?_⟩
 ·rw [hfi]
  dsimp -iota only
  generalize I.acc.length=q
  cases q <;> rfl
 rw [hfi]
theorem atOk24 (w0:World):AtOk w0 24 14 1 co12 (at24 co12):=by
 intro o n c p buf hp hn hb hbS
 have hco:∀ x∈co12,S16 x:=coK_S16 12
 refine ⟨?_,sRun3W24 w0 hn hb hbS hco rfl rfl⟩
 have h:=sE_bd (co:=co12) (b:=buf.drop o) (getD_iB (by omega) fun x hx=>hbS x (List.mem_of_mem_drop hx)) (getD_S16 hco) 12
 rw [sE_end _ _ (p:Int)] at h
 unfold iB at *
 omega
theorem atOk18 (w0:World) {parts kd:Nat} (hpp:parts=2∨parts=3) (hl:(coK kd).length=2+9*parts):AtOk w0 18 (2+9*parts) parts (coK kd) (at18 parts (coK kd)):=by
 intro o n c p buf hp hn hb hbS
 refine ⟨?_,sRun3W18 w0 hp hn hb hbS (coK_S16 kd) hpp rfl hl⟩
 have h:=sF_bd (co:=coK kd) (b:=buf.drop o) (t:=p*parts / 65536) (u:=parts - 1 - p*parts / 65536) (getD_iB (by omega) fun x hx=>hbS x (List.mem_of_mem_drop hx)) (getD_S16 (coK_S16 kd)) 9
 rw [sF_end _ _ (p:=(p:Int)) (by rw [← Int.natCast_mul,show ((65536:Int))=((65536:Nat):Int) from rfl,← Int.natCast_ediv,Int.toNat_natCast])] at h
 unfold iB at *
 omega
theorem CallsA.vecSli {P:Program} {w0:World} {f:FuncId} {a0:A1} {post:List A1} {H:List Blk} {R:AV→List Blk→Prop} {b n wd:Nat} (hn:0<n) (h:∀ c,n≤c→CallsA P w0 f (a0 :: .c (.sli b wd 0 n c)::post) H R):CallsA P w0 f (a0 :: .c (.vec b n)::post) H R:=by
 refine ⟨(h n (Nat.le_refl _)).cal,fun ρ w vs hRH hA => ?_⟩
 cases hA with
 | cons h0 hA =>
  cases hA with
  | cons h1 h2 =>
   obtain ⟨e,he,⟨g,hg,hy,hc⟩ | ⟨_,hz,_⟩⟩:=h1
   ·refine (h e.2 hc).out ρ w _ hRH (.cons h0 (.cons ?_ h2))
    refine ⟨g,?_,?_,hc⟩
    ·unfold Ren.at
     rw [he]
     exact hg
    rw [hy,Nat.zero_mul]
   omega
def InQ (w0:World) (iv:CV) (ys xs:List Int):Prop:=(∃ c,iv = .sli 1 1 0 xs.length c∧xs.length≤c∧ys=xs)∨(∃ (a:Addr) (c:Nat),iv = .val (.slice (some a) xs.length c)∧xs.length≤c ∧ ∀ k x,xs[k]? = some x→w0.cell? ((a.add (k*1)).add 0)=some (.int .i16 x))
theorem InQ.s {w0:World} {iv:CV} {ys xs:List Int} (h:InQ w0 iv ys xs):InS w0 iv ys xs:=by
 rcases h with ⟨c,rfl,hc,rfl⟩ | h
 ·exact .inl ⟨0,c,rfl,hc,fun k x hk=>by rw [Nat.zero_add]; exact hk⟩
 exact .inr h
theorem InQ.norm {w0:World} {iv:CV} {ys xs:List Int} (h:InQ w0 iv ys xs):iv.norm=iv:=by rcases h with ⟨c,rfl,hc,h⟩ | ⟨a,c,rfl,hc,h⟩ <;> rfl
theorem flat_i16 (xs:List Int):flat (encI .i16) [] xs=xs.map (ci .i16):=by
 induction xs with
 | nil=>rfl
 | cons x r ih=>show ci .i16 x::flat (encI .i16) [] r=_; rw [ih]; rfl
theorem InQ.src {w0:World} {iv:CV} {ys xs:List Int} (h:InQ w0 iv ys xs) (H:List Blk) (h1:H[1]? = some (sB ys)):Vc.src w0 H (encI .i16) [] 1 iv xs:=by
 rcases h with ⟨c,rfl,hc,rfl⟩ | ⟨a,c,rfl,hc,hin⟩
 ·unfold Vc.src
  simp only [h1,sB]
  exact ⟨trivial,trivial,by omega,trivial,by rw [List.drop_zero,List.take_length]⟩
 refine ⟨rfl,fun i x hx => ?_⟩
 rw [flat_i16,List.getElem?_map,Option.map_eq_some_iff] at hx
 obtain ⟨y,hy,rfl⟩:=hx
 refine ⟨_,rfl,rfl,?_⟩
 have:=hin i y hy
 rw [Nat.mul_one] at this
 exact this
def OutOk (v:CV) (t:List Blk) (l:List Int):Prop:=(v=outV 3 l.length∧t=outS l)∨(l=[]∧v = .vec 3 0∧t=[sB []])
theorem sRunS (w0:World) {iv:CV} {ys xs fir:List Int} {z:Z6} {s:Sr} (hin:InQ w0 iv ys xs) (hto:s.to_=s.from_) (hbig:xs.length≤1000000) :
 CallsA Tryz.prog w0 19 [.c (.ptr 0 0),.c iv] [rB z s,sB ys,nB fir]
  fun r H => ∃ v t,r = .o (.c v)∧OutOk v t xs∧H=[rB z s,sB ys,nB fir]++t:=by
 have hnorm:=hin.norm
 refine callsA_of_ev c19_ ?_
 conv=>whnf
 refine Or.inl ?_
 conv=>whnf
 refine ⟨fun h1 => ?_,fun h1 => ?_⟩
 ·conv=>whnf
  refine ⟨by decide,Int,encI .i16,[],fun _=>rfl,?_⟩
  conv=>whnf
  refine ⟨rfl,xs,?_,by rw [List.nil_append]; omega,by rw [List.nil_append]; omega,?_⟩
  ·rw [hnorm]
   exact hin.src _ rfl
  conv=>whnf
  refine Or.inr ⟨[0,1,2,5],.o (.c (.vec 3 xs.length)),[rB z s,sB ys,nB fir,sB xs],⟨rfl,⟨rfl,rfl,rfl,rfl,rfl,rfl,rfl,rfl,trivial⟩,rfl⟩,rfl,⟨.vec 3 xs.length,[sB xs],rfl,?_,rfl⟩⟩
  cases xs with
  | nil=>exact .inr ⟨rfl,rfl,rfl⟩
  | cons x r=>exact .inl ⟨rfl,rfl⟩
 rw [hto] at h1
 simp at h1
theorem sRunU (w0:World) {iv:CV} {ys xs fir:List Int} {z:Z6} {s:Sr} (hin:InQ w0 iv ys xs) (hx:∀ x∈xs,S16 x) (hz:z.Ok) (hfr:s.from_=8∨s.from_=12∨s.from_=16) (hto:s.from_<s.to_) (hto2:s.to_≠2*s.from_) (hto3:s.to_≤48) (hR:0<s.ratio) (hR1:s.ratio≤500000) (hf:fir.length=8) (hfn:s.fn=8) (hfS:∀ x∈fir,S16 x) (hbig:xs.length≤1000000) (hbo:(batI (10*s.from_) s.ratio z fir xs).1.length≤100000000) :
 CallsA Tryz.prog w0 19 [.c (.ptr 0 0),.c iv] [rB z s,sB ys,nB fir]
  fun r H => ∃ v t,r = .o (.c v)∧OutOk v t (batI (10*s.from_) s.ratio z fir xs).1∧H=[rB (batI (10*s.from_) s.ratio z fir xs).2.1 s,sB ys,nB (batI (10*s.from_) s.ratio z fir xs).2.2]++t:=by
 have h2:IntKind.i64.wrap (((2:Nat):Int)*(s.from_:Int))=((2*s.from_:Nat):Int):=by rw [wi64 (by omega)]; omega
 refine callsA_of_ev c19_ ?_
 conv=>whnf
 refine Or.inl ?_
 conv=>whnf
 refine ⟨fun h1 => ?_,fun h1 => ?_⟩
 ·have:=of_decide_eq_true h1
  omega
 conv=>whnf
 rw [h2]
 refine ⟨fun h1 => ?_,fun h1 => ?_⟩
 ·have:=of_decide_eq_true h1
  omega
 conv=>whnf
 refine ⟨fun h1 => ?_,fun h1 => ?_⟩
 ·conv=>whnf
  dsimp -iota only
  refine CallsA.liftE (H0:=[]) [] rfl trivial rfl (fir12W w0) ?_
  rintro _ _ ⟨rfl,rfl⟩
  refine ⟨.o (.a (f12F.map (ci .i64))),[rB z s,sB ys,nB fir,boxR],congrArg (fun l=>AV.o (.a l)) (map_ci _ _ _),⟨rfl,rfl,rfl,rfl,trivial⟩,?_⟩
  conv=>whnf
  refine Or.inl ?_
  conv=>whnf
  dsimp -iota only
  refine CallsA.liftKE (H0:=[rB z s,sB ys,nB fir,f12B]) [0,1,2,4] [rB z s,sB ys,nB fir,.dead,f12B] ⟨rfl,rfl,rfl,rfl,trivial⟩ rfl ⟨rfl,rfl,rfl,rfl,rfl,rfl,congrArg some (f12E _),rfl,trivial⟩ ?_ (batUW w0 hin.s hx hz hfr hR hR1 hf hfn hfS hbig hbo) ?_
  ·rcases hin with ⟨c,rfl,_⟩ | ⟨a,c,rfl,_⟩ <;> rfl
  generalize batI (10*s.from_) s.ratio z fir xs=q
  rintro _ _ ⟨rfl,rfl⟩
  by_cases hne:q.1=[]
  ·rw [hne]
   refine ⟨.o (.c nilC),[rB q.2.1 s,sB ys,nB q.2.2,boxR,f12B],rfl,⟨rfl,rfl,rfl,rfl,rfl,trivial⟩,?_⟩
   conv=>whnf
   exact Or.inr ⟨[0,1,2],.o (.c nilC),[rB q.2.1 s,sB ys,nB q.2.2],⟨rfl,⟨rfl,rfl,rfl,rfl,rfl,rfl,trivial⟩,rfl⟩,rfl,⟨nilC,[],rfl,.inl ⟨rfl,rfl⟩,rfl⟩⟩
  have hnp:0<q.1.length:=List.length_pos_iff.2 hne
  rw [outV_pos hnp,outS_pos hne]
  refine ⟨.o (.c (.vec 5 q.1.length)),[rB q.2.1 s,sB ys,nB q.2.2,boxR,f12B,sB q.1],rfl,⟨rfl,rfl,rfl,rfl,rfl,rfl,trivial⟩,?_⟩
  conv=>whnf
  refine Or.inr ⟨[0,1,2,5],.o (.c (.vec 3 q.1.length)),[rB q.2.1 s,sB ys,nB q.2.2,sB q.1],⟨rfl,⟨rfl,rfl,rfl,rfl,rfl,rfl,rfl,rfl,trivial⟩,rfl⟩,rfl,⟨.vec 3 q.1.length,[sB q.1],rfl,.inl ⟨(outV_pos hnp).symm,(outS_pos hne).symm⟩,rfl⟩⟩
 have:=of_decide_eq_false h1
 omega
theorem InQ.r {w0:World} {iv:CV} {ys xs:List Int} (h:InQ w0 iv ys xs):InR w0 iv ys xs:=by
 rcases h with ⟨c,rfl,hc,rfl⟩ | ⟨a,c,rfl,_,h⟩
 ·exact .inl ⟨0,c,rfl,fun k x hk=>by rw [Nat.zero_add]; exact hk⟩
 exact .inr (.inl ⟨a,c,rfl,h⟩)
def tuS (z:Z6) (s:Sr) (ys fir D:List Int) (k:Nat):S :=
 ⟨[(0,.o (.c (.ptr 0 0))),(2,.o (.c (.ptr 3 0))),(5,.o (.c (outV 5 (D.take k).length))),(40,.o (.c (.vec 4 D.length))),(41,.o (.c (.val (.int .i64 (D.length:Nat))))),(42,.o (.c (.val (.int .i64 (k:Nat)))))],
  [rB z s,sB ys,nB fir,boxR,nB D]++outS (D.take k)⟩
theorem sRun2x (w0:World) {iv:CV} {ys xs fir:List Int} {z:Z6} {s:Sr} (hin:InQ w0 iv ys xs) (hx:∀ x∈xs,S16 x) (hz:z.Ok) (hto:s.to_=2*s.from_) (hfr:s.from_≤100) (hfr0:0<s.from_) (hbig:xs.length≤1000000) :
 CallsA Tryz.prog w0 19 [.c (.ptr 0 0),.c iv] [rB z s,sB ys,nB fir]
  fun r H => ∃ v t,r = .o (.c v)∧OutOk v t (dbl z xs).1∧H=[rB (dbl z xs).2 s,sB ys,nB fir]++t:=by
 have h2:IntKind.i64.wrap (((2:Nat):Int)*(s.from_:Int))=((2*s.from_:Nat):Int):=by rw [wi64 (by omega)]; omega
 have hDS:=dbl_S16 z xs
 have hDl:=dbl_length z xs
 refine callsA_of_ev c19_ ?_
 conv=>whnf
 refine Or.inl ?_
 conv=>whnf
 refine ⟨fun h1 => ?_,fun h1 => ?_⟩
 ·have:=of_decide_eq_true h1
  omega
 conv=>whnf
 rw [h2]
 refine ⟨fun h1 => ?_,fun h1 => ?_⟩
 ·conv=>whnf
  refine Or.inl ?_
  conv=>whnf
  dsimp -iota only
  refine CallsA.liftKE (H0:=[rB z s,sB ys,.dead]) [0,1,2] [rB z s,sB ys,.dead,.dead] ⟨rfl,rfl,trivial⟩ rfl ⟨rfl,rfl,rfl,rfl,lk 4 rfl rfl,trivial⟩ ?_ (sDoubledW w0 hin.r hx hz hbig) ?_
  ·rcases hin with ⟨c,rfl,_⟩ | ⟨a,c,rfl,_⟩ <;> rfl
  rintro _ _ ⟨rfl,rfl⟩
  generalize dbl z xs=q at *
  by_cases hne:q.1=[]
  ·rw [hne]
   refine ⟨.o (.c nilC),[rB q.2 s,sB ys,nB fir,boxR],rfl,⟨rfl,rfl,rfl,rfl,trivial⟩,?_⟩
   conv=>whnf
   refine ⟨Unit,fun _=>⟨[(5,.o (.c nilC)),(41,.o (.c (.val (.int .i64 ((0:Nat):Int))))),(42,.o (.c (.val (.int .i64 ((0:Nat):Int)))))],[rB q.2 s,sB ys,nB fir]⟩,fun _=>0,⟨(),[0,1,2],⟨rfl,⟨rfl,rfl,rfl,rfl,rfl,rfl,trivial⟩,rfl⟩,rfl,rfl,rfl,trivial⟩,fun _=>?_⟩
   conv=>whnf
   refine ⟨fun g=>absurd g (by decide),fun _=>?_⟩
   conv=>whnf
   exact Or.inl ⟨nilC,[],rfl,.inl ⟨rfl,rfl⟩,rfl⟩
  have hnp:0<q.1.length:=List.length_pos_iff.2 hne
  rw [outV_pos hnp,outB_pos hne]
  refine ⟨.o (.c (.vec 4 q.1.length)),[rB q.2 s,sB ys,nB fir,boxR,nB q.1],rfl,⟨rfl,rfl,rfl,rfl,rfl,trivial⟩,?_⟩
  conv=>whnf
  refine ⟨{k:Nat // k≤q.1.length},fun k=>tuS q.2 s ys fir q.1 k.1,fun k=>q.1.length - k.1,⟨⟨0,Nat.zero_le _⟩,?_⟩,fun k => ?_⟩
  ·exact ⟨[0,1,2,3,4],⟨rfl,⟨rfl,rfl,rfl,rfl,rfl,rfl,rfl,rfl,rfl,rfl,trivial⟩,rfl⟩,rfl,rfl,rfl,rfl,rfl,rfl,trivial⟩
  obtain ⟨k,hk⟩:=k
  dsimp -iota only [tuS]
  rcases Nat.eq_zero_or_pos k with hk0 | hk0
  ·subst hk0
   rw [List.take_zero]
   conv=>whnf
   refine ⟨fun h3 => ?_,fun h3 => ?_⟩
   ·have h3:0<q.1.length:=lt_t h3
    obtain ⟨v,hv⟩:∃ v,q.1[0]? = some v:=⟨_,List.getElem?_eq_getElem h3⟩
    have hw:IntKind.i16.wrap v=v:=wi16 (hDS v (List.mem_of_getElem? hv))
    conv=>whnf
    refine ⟨⟨Int.le_refl _,Int.ofNat_lt.2 h3⟩,?_⟩
    conv=>whnf
    refine ⟨_,hv,?_⟩
    conv=>whnf
    rw [hw]
    refine ⟨by decide,Int,encI .i16,[],[v],fun _=>rfl,⟨rfl,rfl,rfl⟩,by show 1*2≤_; decide,by show 1≤_; decide,?_⟩
    conv=>whnf
    dsimp -iota only
    have ht:q.1.take 1=[v]:=by rw [List.take_add_one,List.take_zero,hv]; rfl
    refine ⟨⟨1,h3⟩,?_,Nat.sub_lt_sub_left h3 (Nat.lt_succ_self 0)⟩
    dsimp -iota only
    rw [ht]
    exact ⟨[0,1,2,3,4,6],⟨rfl,⟨rfl,rfl,rfl,rfl,rfl,rfl,rfl,rfl,rfl,rfl,rfl,rfl,trivial⟩,rfl⟩,rfl,rfl,rfl,rfl,rfl,rfl,trivial⟩
   have h3:=lt_f h3
   omega
  have hkl:(q.1.take k).length=k:=by rw [List.length_take]; omega
  have hkn:q.1.take k≠[]:=by intro h; rw [h] at hkl; simp at hkl; omega
  rw [outS_pos hkn,outV_pos (n:=(q.1.take k).length) (by omega)]
  conv=>whnf
  refine ⟨fun h3 => ?_,fun h3 => ?_⟩
  ·have h3:k<q.1.length:=lt_t h3
   obtain ⟨v,hv⟩:∃ v,q.1[k]? = some v:=⟨_,List.getElem?_eq_getElem h3⟩
   have hw:IntKind.i16.wrap v=v:=wi16 (hDS v (List.mem_of_getElem? hv))
   conv=>whnf
   refine ⟨⟨Int.natCast_nonneg _,Int.ofNat_lt.2 h3⟩,?_⟩
   conv=>whnf
   refine ⟨_,hv,?_⟩
   conv=>whnf
   rw [hw]
   refine ⟨rfl,[v],⟨rfl,rfl,rfl⟩,by show _*2≤_; rw [List.length_append]; show (_+1)*2≤_; omega,by rw [List.length_append]; show _+1≤_; omega,?_⟩
   conv=>whnf
   dsimp -iota only
   have ht:q.1.take (k+1)=q.1.take k++[v]:=by rw [List.take_add_one,hv]; rfl
   rw [ninc (by omega)]
   refine ⟨⟨k+1,h3⟩,?_,Nat.sub_lt_sub_left h3 (Nat.lt_succ_self k)⟩
   dsimp -iota only
   rw [ht,outV_pos (n:=(q.1.take k++[v]).length) (by rw [List.length_append]; exact Nat.succ_pos _),outS_pos (l:=q.1.take k++[v]) (by simp)]
   exact ⟨[0,1,2,3,4,7],⟨rfl,⟨rfl,rfl,rfl,rfl,rfl,rfl,rfl,rfl,rfl,rfl,rfl,rfl,trivial⟩,rfl⟩,rfl,rfl,rfl,rfl,rfl,rfl,trivial⟩
  have h3:q.1.length≤k:=lt_f h3
  conv=>whnf
  rw [List.take_of_length_le h3]
  exact Or.inr ⟨[0,1,2,5],.o (.c (.vec 3 q.1.length)),[rB q.2 s,sB ys,nB fir,sB q.1],⟨rfl,⟨rfl,rfl,rfl,rfl,rfl,rfl,rfl,rfl,trivial⟩,rfl⟩,rfl,⟨.vec 3 q.1.length,[sB q.1],rfl,.inl ⟨(outV_pos hnp).symm,(outS_pos hne).symm⟩,rfl⟩⟩
 have:=of_decide_eq_false h1
 omega
def dyL:List Nat:=[4,0,2,0,0,0,9,4,7,4,0,3,12,7,7]
def upN (fr to:Nat):Nat:=if to=fr then 0 else if to=2*fr then 0 else if fr<to then 1 else 0
def rat0 (fr to:Nat):Nat:=fr*2 ^ (14+upN fr to) / to*4
theorem upN_le (fr to:Nat):upN fr to≤1:=by unfold upN; (repeat' split) <;> omega
structure RatOk (fr to R:Nat):Prop where
 lo:rat0 fr to≤R
 no:∀ r,rat0 fr to≤r→r<R→r*to / 65536<fr*2 ^ upN fr to
 hi:fr*2 ^ upN fr to≤R*to / 65536
def pK (kd:Nat):Nat:=if kd=34 then 3 else if kd=23 then 2 else 1
def wK (kd:Nat):Nat:=if kd=12 then 24 else 18
theorem inIDW (w0:World) {a i:Nat} (h:(a=8000∧i=0)∨(a=12000∧i=1)∨(a=16000∧i=2)) :
 CallsA Tryz.prog w0 20 [.c (.val (.int .i64 a))] [] fun r H=>r = .t [.c (.val (.int .i64 i)),.c (.val .nilIface)]∧H=[]:=by
 refine callsA_of_ev c20_ ?_
 conv=>whnf
 refine ⟨fun h1 => ?_,fun h1 => ?_⟩
 ·have h1:=of_decide_eq_true h1
  obtain rfl:i=0:=by omega
  conv=>whnf
  exact Or.inl ⟨rfl,rfl⟩
 have h1:=of_decide_eq_false h1
 conv=>whnf
 refine ⟨fun h2 => ?_,fun h2 => ?_⟩
 ·have h2:=of_decide_eq_true h2
  obtain rfl:i=1:=by omega
  conv=>whnf
  exact Or.inl ⟨rfl,rfl⟩
 have h2:=of_decide_eq_false h2
 conv=>whnf
 refine ⟨fun h3 => ?_,fun h3 => ?_⟩
 ·have h3:=of_decide_eq_true h3
  obtain rfl:i=2:=by omega
  conv=>whnf
  exact Or.inl ⟨rfl,rfl⟩
 have h3:=of_decide_eq_false h3
 omega
theorem outIDW (w0:World) {a i:Nat} (h:(a=8000∧i=0)∨(a=12000∧i=1)∨(a=16000∧i=2)∨(a=24000∧i=3)∨(a=48000∧i=4)) :
 CallsA Tryz.prog w0 21 [.c (.val (.int .i64 a))] [] fun r H=>r = .t [.c (.val (.int .i64 i)),.c (.val .nilIface)]∧H=[]:=by
 refine callsA_of_ev c21_ ?_
 conv=>whnf
 refine ⟨fun h1 => ?_,fun h1 => ?_⟩
 ·have h1:=of_decide_eq_true h1
  obtain rfl:i=0:=by omega
  conv=>whnf
  exact Or.inl ⟨rfl,rfl⟩
 have h1:=of_decide_eq_false h1
 conv=>whnf
 refine ⟨fun h2 => ?_,fun h2 => ?_⟩
 ·have h2:=of_decide_eq_true h2
  obtain rfl:i=1:=by omega
  conv=>whnf
  exact Or.inl ⟨rfl,rfl⟩
 have h2:=of_decide_eq_false h2
 conv=>whnf
 refine ⟨fun h3 => ?_,fun h3 => ?_⟩
 ·have h3:=of_decide_eq_true h3
  obtain rfl:i=2:=by omega
  conv=>whnf
  exact Or.inl ⟨rfl,rfl⟩
 have h3:=of_decide_eq_false h3
 conv=>whnf
 refine ⟨fun h4 => ?_,fun h4 => ?_⟩
 ·have h4:=of_decide_eq_true h4
  obtain rfl:i=3:=by omega
  conv=>whnf
  exact Or.inl ⟨rfl,rfl⟩
 have h4:=of_decide_eq_false h4
 conv=>whnf
 refine ⟨fun h5 => ?_,fun h5 => ?_⟩
 ·have h5:=of_decide_eq_true h5
  obtain rfl:i=4:=by omega
  conv=>whnf
  exact Or.inl ⟨rfl,rfl⟩
 have h5:=of_decide_eq_false h5
 omega
theorem mulWWW (w0:World) {a b:Nat} (ha:a≤1000000) (hb:b≤48000) :
 CallsA Tryz.prog w0 22 [.c (.val (.int .i32 a)),.c (.val (.int .i32 b))] [] fun r H=>r = .o (.c (.val (.int .i32 ((a*b / 65536:Nat):Int))))∧H=[]:=by
 have hab:a*b≤1000000*48000:=Nat.mul_le_mul ha hb
 have hr:rnd ((b:Nat):Int) 16=if b<32768 then 0 else 1:=by
  unfold rnd
  rw [show (2:Int) ^ (16 - 1)=32768 from rfl,Int.fdiv_eq_ediv_of_nonneg _ (by omega),Int.fdiv_eq_ediv_of_nonneg _ (by omega)]
  split <;> omega
 have hw:wb ((a:Nat):Int) (IntKind.i16.wrap (b:Int))=((a*b / 65536:Nat):Int) - (if b<32768 then 0 else (a:Int)):=by
  rw [wrap_i16]
  unfold wb
  rw [Int.fdiv_eq_ediv_of_nonneg _ (by omega)]
  split
  ·rw [show ((b:Int)+32768) % 65536 - 32768=(b:Int) by omega,← Int.natCast_mul]
   generalize a*b=c
   omega
  rw [show ((b:Int)+32768) % 65536 - 32768=(b:Int) - 65536 by omega,Int.mul_sub,← Int.natCast_mul]
  generalize a*b=c
  omega
 refine callsA_of_ev c22_ ?_
 conv=>whnf
 refine callV (mulWBW w0 (a:=(a:Int)) (by unfold I32; omega)) rfl ?_
 conv=>whnf
 refine callV (rsrW w0 (a:=(b:Int)) (k:=16) (by unfold I32; omega) (by omega) (by omega)) rfl ?_
 conv=>whnf
 refine Or.inl ⟨congrArg (fun z=>AV.o (.c (.val (.int .i32 z)))) ?_,rfl⟩
 rw [hw,hr]
 generalize a*b=c at *
 split
 ·rw [Int.mul_zero,wi32 (n:=0) (by omega),wi32 (by omega)]; omega
 rw [Int.mul_one,wi32 (n:=(a:Int)) (by omega),wi32 (by omega)]; omega
def atK (kd:Nat):List Int→Int→Int:=if kd=12 then at24 co12 else at18 (pK kd) (coK kd)
def KdOk (kd:Nat) (s:Sr):Prop:=(kd=34∧4*s.to_=3*s.from_)∨(kd=23∧4*s.to_≠3*s.from_∧3*s.to_=2*s.from_)∨(kd=12∧4*s.to_≠3*s.from_∧3*s.to_≠2*s.from_)
theorem sRunD (w0:World) {iv:CV} {ys xs fir:List Int} {z:Int × Int} {s:Sr} {kd:Nat} (hin:InQ w0 iv ys xs) (hx:∀ x∈xs,S16 x) (hz:ArK kd z) (hfr:s.from_=8∨s.from_=12∨s.from_=16) (hto:s.to_<s.from_) (hk:KdOk kd s) (hR:0<s.ratio) (hR1:s.ratio≤500000) (hf:fir.length=wK kd) (hfn:s.fn=wK kd) (hfS:∀ x∈fir,iB 150000000 x) (hbig:xs.length≤1000000) (hbo:(batD kd (atK kd) (10*s.from_) s.ratio z fir xs).1.length≤100000000) :
 CallsA Tryz.prog w0 19 [.c (.ptr 0 0),.c iv] [rB (zA z) s,sB ys,nB fir]
  fun r H => ∃ v t,r = .o (.c v)∧OutOk v t (batD kd (atK kd) (10*s.from_) s.ratio z fir xs).1∧H=[rB (zA (batD kd (atK kd) (10*s.from_) s.ratio z fir xs).2.1) s,sB ys,nB (batD kd (atK kd) (10*s.from_) s.ratio z fir xs).2.2]++t:=by
 have h2:IntKind.i64.wrap (((2:Nat):Int)*(s.from_:Int))=((2*s.from_:Nat):Int):=by rw [wi64 (by omega)]; omega
 have h3:IntKind.i64.wrap (((3:Nat):Int)*(s.from_:Int))=((3*s.from_:Nat):Int):=by rw [wi64 (by omega)]; omega
 have h4:IntKind.i64.wrap (((4:Nat):Int)*(s.to_:Int))=((4*s.to_:Nat):Int):=by rw [wi64 (by omega)]; omega
 have h5:IntKind.i64.wrap (((3:Nat):Int)*(s.to_:Int))=((3*s.to_:Nat):Int):=by rw [wi64 (by omega)]; omega
 refine callsA_of_ev c19_ ?_
 conv=>whnf
 refine Or.inl ?_
 conv=>whnf
 refine ⟨fun h1 => ?_,fun h1 => ?_⟩
 ·have:=of_decide_eq_true h1
  omega
 conv=>whnf
 rw [h2]
 refine ⟨fun h1 => ?_,fun h1 => ?_⟩
 ·have:=of_decide_eq_true h1
  omega
 conv=>whnf
 refine ⟨fun h1 => ?_,fun h1 => ?_⟩
 ·have:=of_decide_eq_true h1
  omega
 conv=>whnf
 refine Or.inl ?_
 conv=>whnf
 rw [h4,h3]
 rcases hk with ⟨rfl,hk⟩ | ⟨rfl,hk,hk'⟩ | ⟨rfl,hk,hk'⟩
 ·refine ⟨fun h6 => ?_,fun h6 => ?_⟩
  ·conv=>whnf
   dsimp -iota only
   refine CallsA.liftE (H0:=[]) [] rfl trivial rfl (downTapsW w0 (kd:=34) (by decide)) ?_
   rintro _ _ ⟨rfl,rfl⟩
   refine ⟨.o (.c (.sli 5 1 0 (coK 34).length (coK 34).length)),[rB (zA z) s,sB ys,nB fir,boxR,boxP 3,tcB (coK 34)],rfl,⟨rfl,rfl,rfl,rfl,rfl,(tcE _ _).symm,trivial⟩,?_⟩
   rw [show (coK 34).length=29 from rfl]
   conv=>whnf
   refine ⟨⟨by decide,by decide,by decide⟩,?_⟩
   conv=>whnf
   refine ⟨fun _=>?_,fun h=>absurd h (by decide)⟩
   conv=>whnf
   dsimp -iota only
   refine CallsA.liftE (H0:=[rB (zA z) s,sB ys,nB fir,tcB (coK 34),boxR,boxT 29,boxP 3,boxF 29]) [0,1,2,5,3,6,4,7] rfl ⟨rfl,rfl,rfl,rfl,rfl,rfl,congrArg some (tcE _ _),rfl,rfl,rfl,rfl,rfl,rfl,rfl,rfl,rfl,trivial⟩ ?_ (batDW w0 (w:=wK 34) (at_:=atK 34) (atOk18 w0 (kd:=34) (.inr rfl) rfl) (by decide) (by decide) (by decide) rfl (coK_taps 34).1 (coK_taps 34).2 hin.s hx hz hfr hR hR1 hf hfn hfS hbig hbo) ?_
   ·rcases hin with ⟨c,rfl,_⟩ | ⟨a,c,rfl,_⟩ <;> rfl
   generalize batD 34 (atK 34) (10*s.from_) s.ratio z fir xs=q
   rintro _ _ ⟨rfl,rfl⟩
   by_cases hne:q.1=[]
   ·rw [hne]
    refine ⟨.o (.c nilC),[rB (zA q.2.1) s,sB ys,nB q.2.2,boxR,boxP 3,tcB (coK 34),.cells 24 [.sli 5 1 0 29 29],.cells 24 [.sli 5 1 2 (29 - 2) (29 - 2)]],rfl,⟨rfl,rfl,rfl,rfl,rfl,(tcE _ _).symm,rfl,rfl,trivial⟩,?_⟩
    conv=>whnf
    exact Or.inr ⟨[0,1,2],.o (.c nilC),[rB (zA q.2.1) s,sB ys,nB q.2.2],⟨rfl,⟨rfl,rfl,rfl,rfl,rfl,rfl,trivial⟩,rfl⟩,rfl,⟨nilC,[],rfl,.inl ⟨rfl,rfl⟩,rfl⟩⟩
   have hnp:0<q.1.length:=List.length_pos_iff.2 hne
   rw [outV_pos hnp,outS_pos hne]
   refine ⟨.o (.c (.vec 8 q.1.length)),[rB (zA q.2.1) s,sB ys,nB q.2.2,boxR,boxP 3,tcB (coK 34),.cells 24 [.sli 5 1 0 29 29],.cells 24 [.sli 5 1 2 (29 - 2) (29 - 2)],sB q.1],rfl,⟨rfl,rfl,rfl,rfl,rfl,(tcE _ _).symm,rfl,rfl,rfl,trivial⟩,?_⟩
   conv=>whnf
   exact Or.inr ⟨[0,1,2,8],.o (.c (.vec 3 q.1.length)),[rB (zA q.2.1) s,sB ys,nB q.2.2,sB q.1],⟨rfl,⟨rfl,rfl,rfl,rfl,rfl,rfl,rfl,rfl,trivial⟩,rfl⟩,rfl,⟨.vec 3 q.1.length,[sB q.1],rfl,.inl ⟨(outV_pos hnp).symm,(outS_pos hne).symm⟩,rfl⟩⟩
  exact absurd hk (by have:=of_decide_eq_false h6; omega)
 ·refine ⟨fun h6 => ?_,fun h6 => ?_⟩
  ·exact absurd (of_decide_eq_true h6) (by omega)
  conv=>whnf
  rw [h5,h2]
  refine ⟨fun h6 => ?_,fun h6 => ?_⟩
  ·conv=>whnf
   dsimp -iota only
   refine CallsA.liftE (H0:=[]) [] rfl trivial rfl (downTapsW w0 (kd:=23) (by decide)) ?_
   rintro _ _ ⟨rfl,rfl⟩
   refine ⟨.o (.c (.sli 5 1 0 (coK 23).length (coK 23).length)),[rB (zA z) s,sB ys,nB fir,boxR,boxP 2,tcB (coK 23)],rfl,⟨rfl,rfl,rfl,rfl,rfl,(tcE _ _).symm,trivial⟩,?_⟩
   rw [show (coK 23).length=20 from rfl]
   conv=>whnf
   refine ⟨⟨by decide,by decide,by decide⟩,?_⟩
   conv=>whnf
   refine ⟨fun _=>?_,fun h=>absurd h (by decide)⟩
   conv=>whnf
   dsimp -iota only
   refine CallsA.liftE (H0:=[rB (zA z) s,sB ys,nB fir,tcB (coK 23),boxR,boxT 20,boxP 2,boxF 20]) [0,1,2,5,3,6,4,7] rfl ⟨rfl,rfl,rfl,rfl,rfl,rfl,congrArg some (tcE _ _),rfl,rfl,rfl,rfl,rfl,rfl,rfl,rfl,rfl,trivial⟩ ?_ (batDW w0 (w:=wK 23) (at_:=atK 23) (atOk18 w0 (kd:=23) (.inl rfl) rfl) (by decide) (by decide) (by decide) rfl (coK_taps 23).1 (coK_taps 23).2 hin.s hx hz hfr hR hR1 hf hfn hfS hbig hbo) ?_
   ·rcases hin with ⟨c,rfl,_⟩ | ⟨a,c,rfl,_⟩ <;> rfl
   generalize batD 23 (atK 23) (10*s.from_) s.ratio z fir xs=q
   rintro _ _ ⟨rfl,rfl⟩
   by_cases hne:q.1=[]
   ·rw [hne]
    refine ⟨.o (.c nilC),[rB (zA q.2.1) s,sB ys,nB q.2.2,boxR,boxP 2,tcB (coK 23),.cells 24 [.sli 5 1 0 20 20],.cells 24 [.sli 5 1 2 (20 - 2) (20 - 2)]],rfl,⟨rfl,rfl,rfl,rfl,rfl,(tcE _ _).symm,rfl,rfl,trivial⟩,?_⟩
    conv=>whnf
    exact Or.inr ⟨[0,1,2],.o (.c nilC),[rB (zA q.2.1) s,sB ys,nB q.2.2],⟨rfl,⟨rfl,rfl,rfl,rfl,rfl,rfl,trivial⟩,rfl⟩,rfl,⟨nilC,[],rfl,.inl ⟨rfl,rfl⟩,rfl⟩⟩
   have hnp:0<q.1.length:=List.length_pos_iff.2 hne
   rw [outV_pos hnp,outS_pos hne]
   refine ⟨.o (.c (.vec 8 q.1.length)),[rB (zA q.2.1) s,sB ys,nB q.2.2,boxR,boxP 2,tcB (coK 23),.cells 24 [.sli 5 1 0 20 20],.cells 24 [.sli 5 1 2 (20 - 2) (20 - 2)],sB q.1],rfl,⟨rfl,rfl,rfl,rfl,rfl,(tcE _ _).symm,rfl,rfl,rfl,trivial⟩,?_⟩
   conv=>whnf
   exact Or.inr ⟨[0,1,2,8],.o (.c (.vec 3 q.1.length)),[rB (zA q.2.1) s,sB ys,nB q.2.2,sB q.1],⟨rfl,⟨rfl,rfl,rfl,rfl,rfl,rfl,rfl,rfl,trivial⟩,rfl⟩,rfl,⟨.vec 3 q.1.length,[sB q.1],rfl,.inl ⟨(outV_pos hnp).symm,(outS_pos hne).symm⟩,rfl⟩⟩
  exact absurd hk' (by have:=of_decide_eq_false h6; omega)
 refine ⟨fun h6 => ?_,fun h6 => ?_⟩
 ·exact absurd (of_decide_eq_true h6) (by omega)
 conv=>whnf
 rw [h5,h2]
 refine ⟨fun h6 => ?_,fun h6 => ?_⟩
 ·exact absurd (of_decide_eq_true h6) (by omega)
 conv=>whnf
 dsimp -iota only
 refine CallsA.liftE (H0:=[]) [] rfl trivial rfl (downTapsW w0 (kd:=12) (by decide)) ?_
 rintro _ _ ⟨rfl,rfl⟩
 refine ⟨.o (.c (.sli 5 1 0 (coK 12).length (coK 12).length)),[rB (zA z) s,sB ys,nB fir,boxR,boxP 1,tcB (coK 12)],rfl,⟨rfl,rfl,rfl,rfl,rfl,(tcE _ _).symm,trivial⟩,?_⟩
 rw [show (coK 12).length=14 from rfl]
 conv=>whnf
 refine ⟨⟨by decide,by decide,by decide⟩,?_⟩
 conv=>whnf
 refine ⟨fun _=>?_,fun h=>absurd h (by decide)⟩
 conv=>whnf
 dsimp -iota only
 refine CallsA.liftE (H0:=[rB (zA z) s,sB ys,nB fir,tcB (coK 12),boxR,boxT 14,boxP 1,boxF 14]) [0,1,2,5,3,6,4,7] rfl ⟨rfl,rfl,rfl,rfl,rfl,rfl,congrArg some (tcE _ _),rfl,rfl,rfl,rfl,rfl,rfl,rfl,rfl,rfl,trivial⟩ ?_ (batDW w0 (w:=wK 12) (at_:=atK 12) (atOk24 w0) (by decide) (by decide) (by decide) rfl (coK_taps 12).1 (coK_taps 12).2 hin.s hx hz hfr hR hR1 hf hfn hfS hbig hbo) ?_
 ·rcases hin with ⟨c,rfl,_⟩ | ⟨a,c,rfl,_⟩ <;> rfl
 generalize batD 12 (atK 12) (10*s.from_) s.ratio z fir xs=q
 rintro _ _ ⟨rfl,rfl⟩
 by_cases hne:q.1=[]
 ·rw [hne]
  refine ⟨.o (.c nilC),[rB (zA q.2.1) s,sB ys,nB q.2.2,boxR,boxP 1,tcB (coK 12),.cells 24 [.sli 5 1 0 14 14],.cells 24 [.sli 5 1 2 (14 - 2) (14 - 2)]],rfl,⟨rfl,rfl,rfl,rfl,rfl,(tcE _ _).symm,rfl,rfl,trivial⟩,?_⟩
  conv=>whnf
  exact Or.inr ⟨[0,1,2],.o (.c nilC),[rB (zA q.2.1) s,sB ys,nB q.2.2],⟨rfl,⟨rfl,rfl,rfl,rfl,rfl,rfl,trivial⟩,rfl⟩,rfl,⟨nilC,[],rfl,.inl ⟨rfl,rfl⟩,rfl⟩⟩
 have hnp:0<q.1.length:=List.length_pos_iff.2 hne
 rw [outV_pos hnp,outS_pos hne]
 refine ⟨.o (.c (.vec 8 q.1.length)),[rB (zA q.2.1) s,sB ys,nB q.2.2,boxR,boxP 1,tcB (coK 12),.cells 24 [.sli 5 1 0 14 14],.cells 24 [.sli 5 1 2 (14 - 2) (14 - 2)],sB q.1],rfl,⟨rfl,rfl,rfl,rfl,rfl,(tcE _ _).symm,rfl,rfl,rfl,trivial⟩,?_⟩
 conv=>whnf
 exact Or.inr ⟨[0,1,2,8],.o (.c (.vec 3 q.1.length)),[rB (zA q.2.1) s,sB ys,nB q.2.2,sB q.1],⟨rfl,⟨rfl,rfl,rfl,rfl,rfl,rfl,rfl,rfl,trivial⟩,rfl⟩,rfl,⟨.vec 3 q.1.length,[sB q.1],rfl,.inl ⟨(outV_pos hnp).symm,(outS_pos hne).symm⟩,rfl⟩⟩
structure RunOk (w0:World) (s:Sr) {σ:Type} (zO:σ → Z6) (fO:σ → List Int) (I:σ → Prop) (rn:σ → List Int→List Int × σ):Prop where
 run:∀ (iv:CV) (ys xs:List Int) (t:σ),InQ w0 iv ys xs→(∀ x∈xs,S16 x)→I t→xs.length≤100000 →
  CallsA Tryz.prog w0 19 [.c (.ptr 0 0),.c iv] [rB (zO t) s,sB ys,nB (fO t)] fun r H => ∃ v b,r = .o (.c v)∧OutOk v b (rn t xs).1∧H=[rB (zO (rn t xs).2) s,sB ys,nB (fO (rn t xs).2)]++b
 inv:∀ (t:σ) (xs:List Int),I t→(∀ x∈xs,S16 x)→I (rn t xs).2
 len:∀ (t:σ) (xs:List Int),I t→xs.length≤100000→(rn t xs).1.length≤10000000
 ne:∀ (t:σ) (xs:List Int),xs≠[]→(rn t xs).1≠[]
section
variable {σ:Type} (rn:σ → List Int→List Int × σ) (fr dl:Nat)
def pcH (h xs:List Int):List Int:=h.take dl++xs.take (fr - dl)
def pcR (xs:List Int):List Int:=(xs.drop (fr - dl)).take (xs.length - fr)
def piece (t:σ) (h xs:List Int):List Int × σ × List Int :=
 ((rn t (pcH fr dl h xs)).1++(rn (rn t (pcH fr dl h xs)).2 (pcR fr dl xs)).1,(rn (rn t (pcH fr dl h xs)).2 (pcR fr dl xs)).2,xs.drop (xs.length - dl)++(pcH fr dl h xs).drop dl)
end
theorem srcV {w0:World} {H:List Blk} {a:Addr} {n c:Nat} {xs:List Int} (hn:xs.length=n) (h:∀ k x,xs[k]? = some x→w0.cell? ((a.add (k*1)).add 0)=some (.int .i16 x)):Vc.src w0 H (encI .i16) [] 1 (.val (.slice (some a) n c)) xs:=by
 refine ⟨hn,fun i x hx => ?_⟩
 rw [flat_i16,List.getElem?_map,Option.map_eq_some_iff] at hx
 obtain ⟨y,hy,rfl⟩:=hx
 refine ⟨_,rfl,rfl,?_⟩
 have:=h i y hy
 rw [Nat.mul_one] at this
 exact this
theorem InQ.val {w0:World} {a:Addr} {c m e:Nat} {ys xs:List Int} (hc:xs.length≤c) (hme:m≤e) (he:e≤xs.length) (h:∀ k x,xs[k]? = some x→w0.cell? ((a.add (k*1)).add 0)=some (.int .i16 x)) :
 InQ w0 (.val (.slice (some (if c=((m:Nat):Int).toNat then a else a.add (((m:Nat):Int).toNat*1))) (((e:Nat):Int).toNat - ((m:Nat):Int).toNat) (c - ((m:Nat):Int).toNat))) ys ((xs.drop m).take (e - m)):=by
 rw [Int.toNat_natCast,Int.toNat_natCast]
 have hl:((xs.drop m).take (e - m)).length=e - m:=by rw [List.length_take,List.length_drop]; omega
 refine Or.inr ⟨_,c - m,by rw [hl],by rw [hl]; omega,fun k x hk => ?_⟩
 have hk2:=tkd hk
 rw [List.getElem?_drop] at hk2
 have h1:=h _ _ hk2
 split
 ·have:=(List.getElem?_eq_some_iff.1 hk).1
  omega
 rw [← h1]
 simp only [Nat.mul_one,Addr.add_add,Nat.add_zero]
theorem sPieceW (w0:World) {σ:Type} {s:Sr} {zO:σ → Z6} {fO:σ → List Int} {I:σ → Prop} {rn:σ → List Int→List Int × σ} (hr:RunOk w0 s zO fO I rn) {a:Addr} {c:Nat} {h xs:List Int} {t:σ} (hxs:xs.length≤c) (hin:∀ k x,xs[k]? = some x→w0.cell? ((a.add (k*1)).add 0)=some (.int .i16 x)) (hx:∀ x∈xs,S16 x) (hh:∀ x∈h,S16 x) (ht:I t) (hhl:h.length=s.from_) (hhn:s.hn=s.from_) (hdl:s.dl<s.from_) (hfr:s.from_≤16) (hxl:s.from_≤xs.length) (hbig:xs.length≤10000) :
 CallsA Tryz.prog w0 11 [.c (.ptr 0 0),.c (.val (.slice (some a) xs.length c))] [rB (zO t) s,sB h,nB (fO t)]
  fun r H=>r = .o (.c (.vec 3 (piece rn s.from_ s.dl t h xs).1.length))∧H=[rB (zO (piece rn s.from_ s.dl t h xs).2.1) s,sB (piece rn s.from_ s.dl t h xs).2.2,nB (fO (piece rn s.from_ s.dl t h xs).2.1),sB (piece rn s.from_ s.dl t h xs).1]:=by
 have hn:IntKind.i64.wrap ((s.from_:Int) - (s.dl:Int))=((s.from_ - s.dl:Nat):Int):=by rw [wi64 (by omega)]; omega
 have hH1:h.take ((s.dl:Nat):Int).toNat++(xs.take (s.from_ - s.dl)++h.drop (((s.dl:Nat):Int).toNat+(xs.take (s.from_ - s.dl)).length))=pcH s.from_ s.dl h xs:=by
  unfold pcH
  rw [Int.toNat_natCast,List.length_take,show h.drop _=[] from List.drop_eq_nil_of_le (by omega),List.append_nil]
 have hn2:IntKind.i64.wrap ((xs.length:Int) - (s.dl:Int))=((xs.length - s.dl:Nat):Int):=by rw [wi64 (by omega)]; omega
 obtain ⟨Q,hQ⟩:∃ Q,Q=pcH s.from_ s.dl h xs:=⟨_,rfl⟩
 have hQl:Q.length=s.hn:=by rw [hQ]; unfold pcH; rw [List.length_append,List.length_take,List.length_take]; omega
 have hQx:∀ x∈Q,S16 x:=by
  intro x hxm
  rw [hQ] at hxm
  rcases List.mem_append.1 hxm with h1 | h1
  ·exact hh x (List.mem_of_mem_take h1)
  exact hx x (List.mem_of_mem_take h1)
 have hqne:(rn t Q).1≠[]:=hr.ne t Q (List.ne_nil_of_length_pos (by omega))
 have hql:(rn t Q).1.length≤10000000:=hr.len t Q ht (by omega)
 have hqI:I (rn t Q).2:=hr.inv t Q ht hQx
 have hcall:=CallsA.vecSli (b:=1) (wd:=1) (n:=s.hn) (by omega) fun cc hcc=>hr.run (.sli 1 1 0 s.hn cc) Q Q t (.inl ⟨cc,by rw [hQl],by omega,rfl⟩) hQx ht (by omega)
 refine callsA_of_ev c11_ ?_
 conv=>whnf
 refine ⟨⟨Int.natCast_nonneg _,Int.ofNat_le.2 (by omega),Int.le_refl _⟩,Or.inl ⟨fun cc hc1 hc2 => ?_,fun hh=>absurd hh (by omega),fun hh=>absurd hh (by omega)⟩⟩
 conv=>whnf
 rw [hn]
 refine ⟨⟨Int.le_refl _,Int.natCast_nonneg _,Int.ofNat_le.2 (by omega)⟩,?_⟩
 conv=>whnf
 rw [adr0]
 refine ⟨⟨⟨rfl,rfl⟩,⟨rfl,rfl⟩,trivial⟩,?_⟩
 conv=>whnf
 dsimp -iota only
 refine ⟨by omega,?_⟩
 conv=>whnf
 refine ⟨xs.take (s.from_ - s.dl),srcV (by rw [List.length_take]; omega) fun k x hk=>hin k x (tkd hk),?_⟩
 conv=>whnf
 rw [hH1,← hQ]
 refine ⟨trivial,?_⟩
 conv=>whnf
 dsimp -iota only
 refine CallsA.liftE (H0:=[rB (zO t) s,sB Q,nB (fO t)]) [0,1,2] rfl ⟨rfl,rfl,rfl,rfl,rfl,rfl,trivial⟩ rfl hcall ?_
 rintro _ _ ⟨v,b,rfl,hv,rfl⟩
 obtain ⟨rfl,rfl⟩:v = .vec 3 (rn t Q).1.length∧b=[sB (rn t Q).1]:=by
  rcases hv with ⟨h1,h2⟩ | ⟨h1,_⟩
  ·rw [outV_pos (List.length_pos_iff.2 hqne)] at h1
   rw [outS_pos hqne] at h2
   exact ⟨h1,h2⟩
  exact absurd h1 hqne
 refine ⟨.o (.c (.vec 3 (rn t Q).1.length)),[rB (zO (rn t Q).2) s,sB Q,nB (fO (rn t Q).2),sB (rn t Q).1],rfl,⟨rfl,rfl,rfl,rfl,trivial⟩,?_⟩
 generalize hqe:rn t Q=q at *
 conv=>whnf
 rw [hn2]
 refine ⟨⟨Int.natCast_nonneg _,Int.ofNat_le.2 (by omega),Int.ofNat_le.2 (by omega)⟩,?_⟩
 conv=>whnf
 have hiv:=InQ.val (ys:=Q) (m:=s.from_ - s.dl) (e:=xs.length - s.dl) hxs (by omega) (by omega) hin
 have hpr:(xs.drop (s.from_ - s.dl)).take (xs.length - s.dl - (s.from_ - s.dl))=pcR s.from_ s.dl xs:=by
  unfold pcR
  congr 1
  omega
 rw [hpr] at hiv
 have hrx:∀ x∈pcR s.from_ s.dl xs,S16 x:=fun x hxm=>hx x (List.mem_of_mem_drop (List.mem_of_mem_take hxm))
 have hrl:(pcR s.from_ s.dl xs).length≤100000:=by unfold pcR; rw [List.length_take]; omega
 have hc2:=hr.run _ Q _ q.2 hiv hrx hqI hrl
 have hl2:=hr.len q.2 _ hqI hrl
 have hpe:piece rn s.from_ s.dl t h xs=(q.1++(rn q.2 (pcR s.from_ s.dl xs)).1,(rn q.2 (pcR s.from_ s.dl xs)).2,xs.drop (xs.length - s.dl)++Q.drop s.dl):=by
  unfold piece
  rw [← hQ,hqe]
 have hsr:=InQ.val (ys:=Q) (m:=xs.length - s.dl) (e:=xs.length) hxs (by omega) (Nat.le_refl _) hin
 rw [show (xs.drop (xs.length - s.dl)).take (xs.length - (xs.length - s.dl))=xs.drop (xs.length - s.dl) from List.take_of_length_le (by rw [List.length_drop]; exact Nat.le_refl _)] at hsr
 have hdr:Q.drop (xs.drop (xs.length - s.dl)).length=Q.drop s.dl:=by
  congr 1
  rw [List.length_drop]
  omega
 rw [hpe]
 generalize rn q.2 (pcR s.from_ s.dl xs)=p at *
 refine CallsA.liftE (H0:=[rB (zO q.2) s,sB Q,nB (fO q.2)]) [0,1,2] rfl ⟨rfl,rfl,rfl,rfl,rfl,rfl,trivial⟩ rfl hc2 ?_
 rintro _ _ ⟨v,b,rfl,hv,rfl⟩
 rcases hv with ⟨rfl,rfl⟩ | ⟨he,rfl,rfl⟩
 ·by_cases hne:p.1=[]
  ·rw [hne]
   refine ⟨.o (.c nilC),[rB (zO p.2) s,sB Q,nB (fO p.2),sB q.1],rfl,⟨rfl,rfl,rfl,rfl,trivial⟩,?_⟩
   conv=>whnf
   refine ⟨rfl,[],rfl,by rw [List.append_nil]; omega,by rw [List.append_nil]; omega,?_⟩
   conv=>whnf
   rw [hn2]
   refine ⟨⟨Int.natCast_nonneg _,Int.ofNat_le.2 (by omega),Int.ofNat_le.2 hxs⟩,?_⟩
   conv=>whnf
   dsimp -iota only
   refine ⟨hQl.symm,xs.drop (xs.length - s.dl),hsr.src _ rfl,by rw [List.length_drop]; omega,?_⟩
   conv=>whnf
   rw [hdr]
   refine ⟨trivial,?_⟩
   conv=>whnf
   exact Or.inr ⟨[0,1,2,4],.o (.c (.vec 3 (q.1++[]).length)),[rB (zO p.2) s,sB (xs.drop (xs.length - s.dl)++Q.drop s.dl),nB (fO p.2),sB (q.1++[])],⟨rfl,⟨rfl,rfl,rfl,rfl,rfl,rfl,rfl,rfl,trivial⟩,rfl⟩,rfl,rfl,rfl⟩
  have hnp:0<p.1.length:=List.length_pos_iff.2 hne
  rw [outV_pos hnp,outS_pos hne]
  refine ⟨.o (.c (.vec 4 p.1.length)),[rB (zO p.2) s,sB Q,nB (fO p.2),sB q.1,sB p.1],rfl,⟨rfl,rfl,rfl,rfl,rfl,trivial⟩,?_⟩
  conv=>whnf
  refine ⟨rfl,p.1,⟨rfl,Nat.le_refl _,rfl,by rw [List.take_length]⟩,by rw [List.length_append]; omega,by rw [List.length_append]; omega,?_⟩
  conv=>whnf
  rw [hn2]
  refine ⟨⟨Int.natCast_nonneg _,Int.ofNat_le.2 (by omega),Int.ofNat_le.2 hxs⟩,?_⟩
  conv=>whnf
  dsimp -iota only
  refine ⟨hQl.symm,xs.drop (xs.length - s.dl),hsr.src _ rfl,by rw [List.length_drop]; omega,?_⟩
  conv=>whnf
  rw [hdr]
  refine ⟨trivial,?_⟩
  conv=>whnf
  exact Or.inr ⟨[0,1,2,5],.o (.c (.vec 3 (q.1++p.1).length)),[rB (zO p.2) s,sB (xs.drop (xs.length - s.dl)++Q.drop s.dl),nB (fO p.2),sB (q.1++p.1)],⟨rfl,⟨rfl,rfl,rfl,rfl,rfl,rfl,rfl,rfl,trivial⟩,rfl⟩,rfl,rfl,rfl⟩
 rw [he]
 refine ⟨.o (.c (.vec 4 0)),[rB (zO p.2) s,sB Q,nB (fO p.2),sB q.1,sB []],rfl,⟨rfl,rfl,rfl,rfl,rfl,trivial⟩,?_⟩
 conv=>whnf
 refine ⟨rfl,[],⟨rfl,Nat.le_refl _,rfl,rfl⟩,by rw [List.append_nil]; omega,by rw [List.append_nil]; omega,?_⟩
 conv=>whnf
 rw [hn2]
 refine ⟨⟨Int.natCast_nonneg _,Int.ofNat_le.2 (by omega),Int.ofNat_le.2 hxs⟩,?_⟩
 conv=>whnf
 dsimp -iota only
 refine ⟨hQl.symm,xs.drop (xs.length - s.dl),hsr.src _ rfl,by rw [List.length_drop]; omega,?_⟩
 conv=>whnf
 rw [hdr]
 refine ⟨trivial,?_⟩
 conv=>whnf
 exact Or.inr ⟨[0,1,2,5],.o (.c (.vec 3 (q.1++[]).length)),[rB (zO p.2) s,sB (xs.drop (xs.length - s.dl)++Q.drop s.dl),nB (fO p.2),sB (q.1++[])],⟨rfl,⟨rfl,rfl,rfl,rfl,rfl,rfl,rfl,rfl,trivial⟩,rfl⟩,rfl,rfl,rfl⟩
def dlyTab (w0:World):Prop := ∀ i:Nat,i<3 → ∀ k:Nat,k<5→w0.cell? ((((⟨0,0,none⟩:Addr).add (i*5)).add (k*1)).add 0)=some (.int .i64 ((dyL.getD (5*i+k) 0:Nat):Int))
def zr (n:Nat):List Int:=List.replicate n 0
def z0S:Sc:=⟨0,0,0,0,0,0,0,0,nilC,nilC,nilC,nilC,nilC⟩
def r0B (s:Sc):Blk:=zB Z6.zero (tlC (zr 36) (zr 8) (zr 48) s)
def InId (fr i:Nat):Prop:=(fr=8∧i=0)∨(fr=12∧i=1)∨(fr=16∧i=2)
def OutId (to k:Nat):Prop:=(to=8∧k=0)∨(to=12∧k=1)∨(to=16∧k=2)∨(to=24∧k=3)∨(to=48∧k=4)
def fnN (fr to:Nat):Nat:=if to=fr then 0 else if to=2*fr then 1 else 2
theorem rat_same (r to fr U:Nat):r*(to*1000) / 65536<fr*1000*2 ^ U↔r*to / 65536<fr*2 ^ U:=by
 rw [show r*(to*1000)=r*to*1000 by rw [Nat.mul_assoc],show fr*1000*2 ^ U=fr*2 ^ U*1000 by rw [Nat.mul_assoc,Nat.mul_comm 1000,Nat.mul_assoc]]
 generalize r*to=p
 generalize fr*2 ^ U=q
 omega
theorem rInitU (w0:World) (hT:dlyTab w0) {fr to i k R dl:Nat} (hi:InId fr i) (hk:OutId to k) (hup:fr≤to) (hdl:dyL.getD (5*i+k) 0=dl) (hRb:R≤1000000) (hR:RatOk fr to R) :
 CallsA Tryz.prog w0 13 [.c (.ptr 0 0),.c (.val (.int .i64 ((fr*1000:Nat):Int))),.c (.val (.int .i64 ((to*1000:Nat):Int)))] [r0B z0S]
  fun r H=>r = .o (.c (.val .nilIface))∧H=[r0B ⟨fnN fr to,10*fr,R,0,0,fr,to,dl,nilC,nilC,nilC,nilC,nilC⟩]:=by
 have hi3:i<3:=by unfold InId at hi; omega
 have hk5:k<5:=by unfold OutId at hk; omega
 have hfr:fr≤16:=by unfold InId at hi; omega
 have hto:to≤48∧0<to:=by unfold OutId at hk; omega
 have e1:IntKind.i64.wrap (((fr*1000:Nat):Int).tdiv ((1000:Nat):Int))=(fr:Int):=by rw [ntdiv,wi64 (by omega)]; omega
 have e2:IntKind.i64.wrap (((to*1000:Nat):Int).tdiv ((1000:Nat):Int))=(to:Int):=by rw [ntdiv,wi64 (by omega)]; omega
 have e3:IntKind.i64.wrap ((fr:Int)*((10:Nat):Int))=((10*fr:Nat):Int):=by rw [wi64 (by omega)]; omega
 have e4:IntKind.i64.wrap (((fr*1000:Nat):Int)*((2:Nat):Int))=((2*(fr*1000):Nat):Int):=by rw [wi64 (by omega)]; omega
 obtain ⟨U,hU⟩:∃ U,U=upN fr to:=⟨_,rfl⟩
 have hU1:U≤1:=hU ▸ upN_le fr to
 have hUU:U=0∨U=1:=by omega
 have e5:IntKind.i64.wrap (((14:Nat):Int)+(U:Int))=((14+U:Nat):Int):=by rw [wi64 (by omega)]; omega
 have e6:IntKind.i64.wrap (((fr*1000:Nat):Int)*2 ^ min ((14+U:Nat):Int).toNat IntKind.i64.bits)=((fr*1000*2 ^ (14+U):Nat):Int):=by
  rw [nshlvi _ _ (by omega),wi64 (by rcases hUU with rfl | rfl <;> omega)]
 obtain ⟨q,hq⟩:∃ q,q=fr*2 ^ (14+U) / to:=⟨_,rfl⟩
 have hq1:q≤524288:=by
  rw [hq]
  exact Nat.le_trans (Nat.div_le_self _ _) (by rcases hUU with rfl | rfl <;> omega)
 have hq2:fr*1000*2 ^ (14+U) / (to*1000)=q:=by
  rw [hq,show fr*1000*2 ^ (14+U)=fr*2 ^ (14+U)*1000 by rw [Nat.mul_assoc,Nat.mul_comm 1000,Nat.mul_assoc],Nat.mul_div_mul_right _ _ (by decide)]
 have e7:IntKind.i64.wrap (((fr*1000*2 ^ (14+U):Nat):Int).tdiv ((to*1000:Nat):Int))=(q:Int):=by rw [ntdiv,hq2,wi64 (by omega)]
 have e8:IntKind.i32.wrap (q:Int)=(q:Int):=wi32 (by omega)
 have e9:IntKind.i32.wrap ((q:Int)*2 ^ min 2 IntKind.i32.bits)=((q*4:Nat):Int):=by
  rw [show min 2 IntKind.i32.bits=2 from rfl,show (2:Int) ^ 2=4 from rfl,wi32 (by omega)]
  omega
 have e10:IntKind.i64.wrap (((fr*1000:Nat):Int)*2 ^ min ((U:Nat):Int).toNat IntKind.i64.bits)=((fr*1000*2 ^ U:Nat):Int):=by
  rw [nshlvi _ _ (by omega),wi64 (by rcases hUU with rfl | rfl <;> omega)]
 have e11:IntKind.i32.wrap ((to*1000:Nat):Int)=((to*1000:Nat):Int):=wi32 (by omega)
 have e12:IntKind.i32.wrap ((fr*1000*2 ^ U:Nat):Int)=((fr*1000*2 ^ U:Nat):Int):=wi32 (by rcases hUU with rfl | rfl <;> omega)
 have e13:∀ r:Nat,r≤1000000→IntKind.i32.wrap ((r:Int)+((1:Nat):Int))=((r+1:Nat):Int):=fun r h=>by rw [wi32 (by omega)]; omega
 have hr0:q*4=rat0 fr to:=by unfold rat0; rw [hq,hU]
 refine callsA_of_ev c13_ ?_
 conv=>whnf
 refine ⟨rfl,rfl,Or.inl ?_⟩
 conv=>whnf
 refine ⟨rfl,rfl,Or.inl ?_⟩
 conv=>whnf
 refine ⟨rfl,rfl,Or.inl ?_⟩
 conv=>whnf
 refine ⟨rfl,rfl,Or.inl ?_⟩
 conv=>whnf
 refine CallsA.liftE (H0:=[]) [] rfl trivial rfl (inIDW w0 (a:=fr*1000) (i:=i) (by unfold InId at hi; omega)) ?_
 rintro _ _ ⟨rfl,rfl⟩
 refine ⟨.t [.c (.val (.int .i64 i)),.c (.val .nilIface)],[r0B z0S],rfl,⟨rfl,trivial⟩,?_⟩
 conv=>whnf
 refine Or.inl ?_
 conv=>whnf
 refine ⟨fun g=>zF g,fun _=>?_⟩
 conv=>whnf
 refine CallsA.liftE (H0:=[]) [] rfl trivial rfl (outIDW w0 (a:=to*1000) (i:=k) (by unfold OutId at hk; omega)) ?_
 rintro _ _ ⟨rfl,rfl⟩
 refine ⟨.t [.c (.val (.int .i64 k)),.c (.val .nilIface)],[r0B z0S],rfl,⟨rfl,trivial⟩,?_⟩
 conv=>whnf
 refine Or.inl ?_
 conv=>whnf
 refine ⟨fun g=>zF g,fun _=>?_⟩
 conv=>whnf
 refine ⟨⟨Int.natCast_nonneg _,Int.ofNat_lt.2 hi3⟩,?_⟩
 conv=>whnf
 refine ⟨⟨Int.natCast_nonneg _,Int.ofNat_lt.2 hk5⟩,?_⟩
 conv=>whnf
 refine ⟨_,hT i hi3 k hk5,rfl,?_⟩
 conv=>whnf
 rw [hdl]
 rw [e1,e2,e3]
 refine Or.inr ⟨Unit,fun _=>⟨[(0,.o (.c (.ptr 0 0))),(1,.o (.c (.val (.int .i64 ((fr*1000:Nat):Int))))),(2,.o (.c (.val (.int .i64 ((to*1000:Nat):Int))))),(14,.o (.c (.val (.int .i64 ((U:Nat):Int)))))],[r0B ⟨fnN fr to,10*fr,0,0,0,fr,to,dl,nilC,nilC,nilC,nilC,nilC⟩]⟩,?_,fun _=>?_⟩
 ·conv=>whnf
  refine ⟨fun h6 => ?_,fun h6 => ?_⟩
  ·have h6:=gt_t h6
   conv=>whnf
   rw [e4]
   refine ⟨fun h7 => ?_,fun h7 => ?_⟩
   ·have h7:=beq_t h7
    conv=>whnf
    have eU:U=0:=by rw [hU]; unfold upN; rw [if_neg (by omega),if_pos (by omega)]
    have eF:fnN fr to=1:=by unfold fnN; rw [if_neg (by omega),if_pos (by omega)]
    rw [eU,eF]
    exact ⟨(),[0],⟨rfl,⟨rfl,rfl,trivial⟩,rfl⟩,rfl,rfl,rfl,rfl,trivial⟩
   have h7:=beq_f h7
   conv=>whnf
   have eU:U=1:=by rw [hU]; unfold upN; rw [if_neg (by omega),if_neg (by omega),if_pos (by omega)]
   have eF:fnN fr to=2:=by unfold fnN; rw [if_neg (by omega),if_neg (by omega)]
   rw [eU,eF]
   exact ⟨(),[0],⟨rfl,⟨rfl,rfl,trivial⟩,rfl⟩,rfl,rfl,rfl,rfl,trivial⟩
  have h6:=gt_f h6
  conv=>whnf
  refine ⟨fun h7 => ?_,fun h7 => ?_⟩
  ·have h7:=lt_t h7
   omega
  conv=>whnf
  have eU:U=0:=by rw [hU]; unfold upN; rw [if_pos (by omega)]
  have eF:fnN fr to=0:=by unfold fnN; rw [if_pos (by omega)]
  rw [eU,eF]
  exact ⟨(),[0],⟨rfl,⟨rfl,rfl,trivial⟩,rfl⟩,rfl,rfl,rfl,rfl,trivial⟩
 conv=>whnf
 rw [e5]
 refine ⟨Int.natCast_nonneg _,?_⟩
 conv=>whnf
 rw [e6]
 refine ⟨(by omega),?_⟩
 conv=>whnf
 rw [e7,e8,e9,hr0]
 refine Or.inl ?_
 conv=>whnf
 refine ⟨{r:Nat // rat0 fr to≤r∧r≤R},fun ⟨r,_⟩=>⟨[(0,.o (.c (.ptr 0 0))),(1,.o (.c (.val (.int .i64 ((fr*1000:Nat):Int))))),(2,.o (.c (.val (.int .i64 ((to*1000:Nat):Int))))),(14,.o (.c (.val (.int .i64 ((U:Nat):Int)))))],[r0B ⟨fnN fr to,10*fr,r,0,0,fr,to,dl,nilC,nilC,nilC,nilC,nilC⟩]⟩,fun r=>R - r.1,⟨⟨rat0 fr to,Nat.le_refl _,hR.lo⟩,?_⟩,fun ⟨r,hr,hr1⟩ => ?_⟩
 ·exact ⟨[0],⟨rfl,⟨rfl,rfl,trivial⟩,rfl⟩,rfl,rfl,rfl,rfl,trivial⟩
 conv=>whnf
 refine ⟨Int.natCast_nonneg _,?_⟩
 conv=>whnf
 rw [e10,e11]
 refine callV (mulWWW w0 (a:=r) (b:=to*1000) (by omega) (by omega)) rfl ?_
 conv=>whnf
 refine ⟨trivial,?_⟩
 conv=>whnf
 rw [e12]
 refine ⟨fun h11 => ?_,fun h11 => ?_⟩
 ·have h11:r*(to*1000) / 65536<fr*1000*2 ^ U:=lt_t h11
  have hlt:r<R:=by
   rcases Nat.lt_or_ge r R with h | h
   ·exact h
   have:=hR.hi
   rw [← hU] at this
   obtain rfl:r=R:=by omega
   exact absurd ((rat_same r to fr U).1 h11) (by omega)
  conv=>whnf
  rw [e13 r (by omega)]
  exact ⟨⟨r+1,by omega,hlt⟩,⟨[0],⟨rfl,⟨rfl,rfl,trivial⟩,rfl⟩,rfl,rfl,rfl,rfl,trivial⟩,Nat.sub_lt_sub_left hlt (Nat.lt_succ_self r)⟩
 have h11:fr*1000*2 ^ U≤r*(to*1000) / 65536:=lt_f h11
 have hre:r=R:=by
  rcases Nat.lt_or_ge r R with h | h
  ·have:=hR.no r hr h
   rw [← hU] at this
   exact absurd ((rat_same r to fr U).2 this) (by omega)
  omega
 subst hre
 conv=>whnf
 exact Or.inl ⟨rfl,rfl⟩
theorem extN_of {w0:World} {a:Addr}:∀ (l:List Int) (i:Nat) (k:List CV→Prop),(∀ j x,l[j]? = some x→w0.cell? (a.add (i+j))=some (.int .i16 x))→k (l.map (ci .i16))→extN w0 a i l.length k
 | [],_,_,_,hk=>hk
 | x::l,i,k,h,hk=>⟨.int .i16 x,h 0 x rfl,rfl,extN_of l (i+1) (fun r=>k (.val (.int .i16 x)::r)) (fun j y hy=>by
  have:=h (j+1) y (by simpa using hy)
  rw [show i+1+j=i+(j+1) by omega]
  exact this) hk⟩
theorem coD {w0:World} {a:Addr} {l:List Int} (h:∀ (j:Nat) x,l[j]? = some x→w0.cell? (a.add (0+j))=some (.int .i16 x)) (j:Nat) (x:Int) (hx:(l.drop 1)[j]? = some x):w0.cell? (a.add (0+1+j))=some (.int .i16 x):=by
 rw [List.getElem?_drop] at hx
 rw [Nat.add_assoc]
 exact h _ _ hx
def coTab (w0:World):Prop:=(∀ (j:Nat) x,(coK 34)[j]? = some x→w0.cell? ((⟨1,0,none⟩:Addr).add (0+j))=some (.int .i16 x))∧(∀ (j:Nat) x,(coK 23)[j]? = some x→w0.cell? ((⟨2,0,none⟩:Addr).add (0+j))=some (.int .i16 x)) ∧ ∀ (j:Nat) x,(coK 12)[j]? = some x→w0.cell? ((⟨3,0,none⟩:Addr).add (0+j))=some (.int .i16 x)
def DnK (kd fr to:Nat):Prop:=(kd=34∧fr=16∧to=12)∨(kd=23∧fr=12∧to=8)∨(kd=12∧fr=16∧to=8)
theorem DnK.lt {kd fr to:Nat} (h:DnK kd fr to):to<fr:=by unfold DnK at h; omega
def dnS (kd fr to R dl:Nat):Sc:=⟨3,10*fr,R,wK kd,pK kd,fr,to,dl,.vec 1 (coK kd).length,nilC,nilC,nilC,nilC⟩
theorem rInitD (w0:World) (hT:dlyTab w0) (hC:coTab w0) {fr to i k R dl kd:Nat} (hi:InId fr i) (hk:OutId to k) (hkd:DnK kd fr to) (hdl:dyL.getD (5*i+k) 0=dl) (hRb:R≤1000000) (hR:RatOk fr to R) :
 CallsA Tryz.prog w0 13 [.c (.ptr 0 0),.c (.val (.int .i64 ((fr*1000:Nat):Int))),.c (.val (.int .i64 ((to*1000:Nat):Int)))] [r0B z0S]
  fun r H=>r = .o (.c (.val .nilIface))∧H=[r0B (dnS kd fr to R dl),kB (coK kd)]:=by
 have hi3:i<3:=by unfold InId at hi; omega
 have hk5:k<5:=by unfold OutId at hk; omega
 have hfr:fr≤16:=by unfold InId at hi; omega
 have hto:to≤48∧0<to:=by unfold OutId at hk; omega
 have hlt:to<fr:=hkd.lt
 have e1:IntKind.i64.wrap (((fr*1000:Nat):Int).tdiv ((1000:Nat):Int))=(fr:Int):=by rw [ntdiv,wi64 (by omega)]; omega
 have e2:IntKind.i64.wrap (((to*1000:Nat):Int).tdiv ((1000:Nat):Int))=(to:Int):=by rw [ntdiv,wi64 (by omega)]; omega
 have e3:IntKind.i64.wrap ((fr:Int)*((10:Nat):Int))=((10*fr:Nat):Int):=by rw [wi64 (by omega)]; omega
 have e4:IntKind.i64.wrap (((fr*1000:Nat):Int)*((2:Nat):Int))=((2*(fr*1000):Nat):Int):=by rw [wi64 (by omega)]; omega
 obtain ⟨U,hU⟩:∃ U,U=upN fr to:=⟨_,rfl⟩
 have hU1:U≤1:=hU ▸ upN_le fr to
 have hUU:U=0∨U=1:=by omega
 have e5:IntKind.i64.wrap (((14:Nat):Int)+(U:Int))=((14+U:Nat):Int):=by rw [wi64 (by omega)]; omega
 have e6:IntKind.i64.wrap (((fr*1000:Nat):Int)*2 ^ min ((14+U:Nat):Int).toNat IntKind.i64.bits)=((fr*1000*2 ^ (14+U):Nat):Int):=by
  rw [nshlvi _ _ (by omega),wi64 (by rcases hUU with rfl | rfl <;> omega)]
 obtain ⟨q,hq⟩:∃ q,q=fr*2 ^ (14+U) / to:=⟨_,rfl⟩
 have hq1:q≤524288:=by
  rw [hq]
  exact Nat.le_trans (Nat.div_le_self _ _) (by rcases hUU with rfl | rfl <;> omega)
 have hq2:fr*1000*2 ^ (14+U) / (to*1000)=q:=by
  rw [hq,show fr*1000*2 ^ (14+U)=fr*2 ^ (14+U)*1000 by rw [Nat.mul_assoc,Nat.mul_comm 1000,Nat.mul_assoc],Nat.mul_div_mul_right _ _ (by decide)]
 have e7:IntKind.i64.wrap (((fr*1000*2 ^ (14+U):Nat):Int).tdiv ((to*1000:Nat):Int))=(q:Int):=by rw [ntdiv,hq2,wi64 (by omega)]
 have e8:IntKind.i32.wrap (q:Int)=(q:Int):=wi32 (by omega)
 have e9:IntKind.i32.wrap ((q:Int)*2 ^ min 2 IntKind.i32.bits)=((q*4:Nat):Int):=by
  rw [show min 2 IntKind.i32.bits=2 from rfl,show (2:Int) ^ 2=4 from rfl,wi32 (by omega)]
  omega
 have e10:IntKind.i64.wrap (((fr*1000:Nat):Int)*2 ^ min ((U:Nat):Int).toNat IntKind.i64.bits)=((fr*1000*2 ^ U:Nat):Int):=by
  rw [nshlvi _ _ (by omega),wi64 (by rcases hUU with rfl | rfl <;> omega)]
 have e11:IntKind.i32.wrap ((to*1000:Nat):Int)=((to*1000:Nat):Int):=wi32 (by omega)
 have e12:IntKind.i32.wrap ((fr*1000*2 ^ U:Nat):Int)=((fr*1000*2 ^ U:Nat):Int):=wi32 (by rcases hUU with rfl | rfl <;> omega)
 have e13:∀ r:Nat,r≤1000000→IntKind.i32.wrap ((r:Int)+((1:Nat):Int))=((r+1:Nat):Int):=fun r h=>by rw [wi32 (by omega)]; omega
 have hr0:q*4=rat0 fr to:=by unfold rat0; rw [hq,hU]
 have f1:IntKind.i64.wrap (((to*1000:Nat):Int)*((4:Nat):Int))=((to*1000*4:Nat):Int):=by rw [nmul,wi64 (by omega)]
 have f2:IntKind.i64.wrap (((fr*1000:Nat):Int)*((3:Nat):Int))=((fr*1000*3:Nat):Int):=by rw [nmul,wi64 (by omega)]
 have f3:IntKind.i64.wrap (((to*1000:Nat):Int)*((3:Nat):Int))=((to*1000*3:Nat):Int):=by rw [nmul,wi64 (by omega)]
 have f4:IntKind.i64.wrap (((fr*1000:Nat):Int)*((2:Nat):Int))=((fr*1000*2:Nat):Int):=by rw [nmul,wi64 (by omega)]
 have f5:IntKind.i64.wrap (((to*1000:Nat):Int)*((2:Nat):Int))=((to*1000*2:Nat):Int):=by rw [nmul,wi64 (by omega)]
 have eU:U=0:=by rw [hU]; unfold upN; (repeat' split) <;> omega
 refine callsA_of_ev c13_ ?_
 conv=>whnf
 refine ⟨rfl,rfl,Or.inl ?_⟩
 conv=>whnf
 refine ⟨rfl,rfl,Or.inl ?_⟩
 conv=>whnf
 refine ⟨rfl,rfl,Or.inl ?_⟩
 conv=>whnf
 refine ⟨rfl,rfl,Or.inl ?_⟩
 conv=>whnf
 refine CallsA.liftE (H0:=[]) [] rfl trivial rfl (inIDW w0 (a:=fr*1000) (i:=i) (by unfold InId at hi; omega)) ?_
 rintro _ _ ⟨rfl,rfl⟩
 refine ⟨.t [.c (.val (.int .i64 i)),.c (.val .nilIface)],[r0B z0S],rfl,⟨rfl,trivial⟩,?_⟩
 conv=>whnf
 refine Or.inl ?_
 conv=>whnf
 refine ⟨fun g=>zF g,fun _=>?_⟩
 conv=>whnf
 refine CallsA.liftE (H0:=[]) [] rfl trivial rfl (outIDW w0 (a:=to*1000) (i:=k) (by unfold OutId at hk; omega)) ?_
 rintro _ _ ⟨rfl,rfl⟩
 refine ⟨.t [.c (.val (.int .i64 k)),.c (.val .nilIface)],[r0B z0S],rfl,⟨rfl,trivial⟩,?_⟩
 conv=>whnf
 refine Or.inl ?_
 conv=>whnf
 refine ⟨fun g=>zF g,fun _=>?_⟩
 conv=>whnf
 refine ⟨⟨Int.natCast_nonneg _,Int.ofNat_lt.2 hi3⟩,?_⟩
 conv=>whnf
 refine ⟨⟨Int.natCast_nonneg _,Int.ofNat_lt.2 hk5⟩,?_⟩
 conv=>whnf
 refine ⟨_,hT i hi3 k hk5,rfl,?_⟩
 conv=>whnf
 rw [hdl]
 rw [e1,e2,e3]
 refine Or.inr ⟨Unit,fun _=>⟨[(0,.o (.c (.ptr 0 0))),(1,.o (.c (.val (.int .i64 ((fr*1000:Nat):Int))))),(2,.o (.c (.val (.int .i64 ((to*1000:Nat):Int))))),(14,.o (.c (.val (.int .i64 ((U:Nat):Int)))))],[r0B (dnS kd fr to 0 dl),kB (coK kd)]⟩,?_,fun _=>?_⟩
 ·conv=>whnf
  refine ⟨fun h=>absurd (gt_t h) (by omega),fun _=>?_⟩
  conv=>whnf
  refine ⟨fun _=>?_,fun h=>absurd (lt_f h) (by omega)⟩
  conv=>whnf
  rw [f1,f2]
  rcases hkd with ⟨rfl,rfl,rfl⟩ | ⟨rfl,rfl,rfl⟩ | ⟨rfl,rfl,rfl⟩
  ·refine ⟨fun _=>?_,fun h=>absurd (beq_f h) (by decide)⟩
   conv=>whnf
   refine ⟨_,hC.1 0 _ rfl,rfl,extN_of ((coK 34).drop 1) (0+1) _ (coD hC.1) ?_⟩
   conv=>whnf
   refine Or.inl ?_
   conv=>whnf
   refine ⟨⟨⟨by decide,by decide⟩,by decide⟩,Or.inr ⟨by decide,rfl,by decide,Int,encI .i16,[],coK 34,fun _=>rfl,rfl,rfl,?_⟩⟩
   conv=>whnf
   rw [eU]
   exact ⟨(),[0,2],⟨rfl,⟨rfl,rfl,rfl,rfl,trivial⟩,rfl⟩,rfl,rfl,rfl,rfl,trivial⟩
  ·refine ⟨fun h=>absurd (beq_t h) (by decide),fun _=>?_⟩
   conv=>whnf
   rw [f3,f4]
   refine ⟨fun _=>?_,fun h=>absurd (beq_f h) (by decide)⟩
   conv=>whnf
   refine ⟨_,hC.2.1 0 _ rfl,rfl,extN_of ((coK 23).drop 1) (0+1) _ (coD hC.2.1) ?_⟩
   conv=>whnf
   refine Or.inl ?_
   conv=>whnf
   refine ⟨⟨⟨by decide,by decide⟩,by decide⟩,Or.inr ⟨by decide,rfl,by decide,Int,encI .i16,[],coK 23,fun _=>rfl,rfl,rfl,?_⟩⟩
   conv=>whnf
   rw [eU]
   exact ⟨(),[0,2],⟨rfl,⟨rfl,rfl,rfl,rfl,trivial⟩,rfl⟩,rfl,rfl,rfl,rfl,trivial⟩
  refine ⟨fun h=>absurd (beq_t h) (by decide),fun _=>?_⟩
  conv=>whnf
  rw [f3,f4]
  refine ⟨fun h=>absurd (beq_t h) (by decide),fun _=>?_⟩
  conv=>whnf
  rw [f5]
  refine ⟨fun _=>?_,fun h=>absurd (beq_f h) (by decide)⟩
  conv=>whnf
  refine ⟨_,hC.2.2 0 _ rfl,rfl,extN_of ((coK 12).drop 1) (0+1) _ (coD hC.2.2) ?_⟩
  conv=>whnf
  refine Or.inl ?_
  conv=>whnf
  refine ⟨⟨⟨by decide,by decide⟩,by decide⟩,Or.inr ⟨by decide,rfl,by decide,Int,encI .i16,[],coK 12,fun _=>rfl,rfl,rfl,?_⟩⟩
  conv=>whnf
  rw [eU]
  exact ⟨(),[0,2],⟨rfl,⟨rfl,rfl,rfl,rfl,trivial⟩,rfl⟩,rfl,rfl,rfl,rfl,trivial⟩
 conv=>whnf
 rw [e5]
 refine ⟨Int.natCast_nonneg _,?_⟩
 conv=>whnf
 rw [e6]
 refine ⟨(by omega),?_⟩
 conv=>whnf
 rw [e7,e8,e9,hr0]
 refine Or.inl ?_
 conv=>whnf
 refine ⟨{r:Nat // rat0 fr to≤r∧r≤R},fun ⟨r,_⟩=>⟨[(0,.o (.c (.ptr 0 0))),(1,.o (.c (.val (.int .i64 ((fr*1000:Nat):Int))))),(2,.o (.c (.val (.int .i64 ((to*1000:Nat):Int))))),(14,.o (.c (.val (.int .i64 ((U:Nat):Int)))))],[r0B (dnS kd fr to r dl),kB (coK kd)]⟩,fun r=>R - r.1,⟨⟨rat0 fr to,Nat.le_refl _,hR.lo⟩,?_⟩,fun ⟨r,hr,hr1⟩ => ?_⟩
 ·exact ⟨[0,1],⟨rfl,⟨rfl,rfl,rfl,rfl,trivial⟩,rfl⟩,rfl,rfl,rfl,rfl,trivial⟩
 conv=>whnf
 refine ⟨Int.natCast_nonneg _,?_⟩
 conv=>whnf
 rw [e10,e11]
 refine callV (mulWWW w0 (a:=r) (b:=to*1000) (by omega) (by omega)) rfl ?_
 conv=>whnf
 refine ⟨trivial,?_⟩
 conv=>whnf
 rw [e12]
 refine ⟨fun h11 => ?_,fun h11 => ?_⟩
 ·have h11:r*(to*1000) / 65536<fr*1000*2 ^ U:=lt_t h11
  have hlt:r<R:=by
   rcases Nat.lt_or_ge r R with h | h
   ·exact h
   have:=hR.hi
   rw [← hU] at this
   obtain rfl:r=R:=by omega
   exact absurd ((rat_same r to fr U).1 h11) (by omega)
  conv=>whnf
  rw [show IntKind.i32.wrap (((dnS kd fr to r dl).inv:Int)+((1:Nat):Int))=((r+1:Nat):Int) from e13 r (by omega)]
  exact ⟨⟨r+1,by omega,hlt⟩,⟨[0,1],⟨rfl,⟨rfl,rfl,rfl,rfl,trivial⟩,rfl⟩,rfl,rfl,rfl,rfl,trivial⟩,Nat.sub_lt_sub_left hlt (Nat.lt_succ_self r)⟩
 have h11:fr*1000*2 ^ U≤r*(to*1000) / 65536:=lt_f h11
 have hre:r=R:=by
  rcases Nat.lt_or_ge r R with h | h
  ·have:=hR.no r hr h
   rw [← hU] at this
   exact absurd ((rat_same r to fr U).2 this) (by omega)
  omega
 subst hre
 conv=>whnf
 exact Or.inl ⟨rfl,rfl⟩
end Go.Proofs.YtbpogapddpacoaaGreatDoor
end
section
namespace Go.Vc
open Go.RowKit (Below)
theorem Ghost.nilV (w0:World) (H:List Blk) {α:Type} (wr:Bool) (T:TypeId) (e:Enc α) (bs:List Nat) (wd:Nat) (h0:0<wd) (hl:∀ x,(e.f bs x).length=wd):Ghost w0 H (H++[.vec wr T e bs wd []]):=fun ρ w h=>by
 have hnone:∀ g,¬ owns (none,0) g:=by
  rintro g (h | ⟨_,ms,c,h1,h2⟩)
  ·cases h
  have:=encM_inj (a:=ms) (b:=[]) h1
  subst this
  cases h2
 have hown:∀ b q g,(H++[.vec wr T e bs wd []])[b]? = some q→Ren.own (ρ ++ [(none,0)]) b g→b<H.length∧H[b]? = some q ∧ ρ.own b g:=by
  intro b q g hq hg
  rcases push_get hq with ⟨h1,h2⟩ | ⟨h1,_⟩
  ·rw [own_append (by rw [h.len]; exact h1)] at hg
   exact ⟨h1,h2,hg⟩
  rw [h1,← h.len,own_last] at hg
  exact absurd hg (hnone g)
 have himg:∀ g,image (ρ ++ [(none,0)]) (H++[.vec wr T e bs wd []]) g→image ρ H g:=by
  rintro g ⟨b,q,hq,hl,hg⟩
  obtain ⟨_,h2,h3⟩:=hown b q g hq hg
  exact ⟨b,q,h2,hl,h3⟩
 refine ⟨[(none,0)],⟨by simp [h.len],fun b q e1 hq he => ?_,fun b b' k k' g hb hb' l l' a a' => ?_,fun g hg=>h.lo g (himg g hg),h.base⟩,himg⟩
 ·rcases push_get hq with ⟨h1,h2⟩ | ⟨h1,rfl⟩
  ·rw [List.getElem?_append_left (by rw [h.len]; exact h1)] at he
   exact (h.ok b q e1 h2 he).more _
  rw [h1,← h.len] at he
  simp at he
  subst he
  exact ⟨h0,hl,.inl ⟨rfl,rfl,rfl⟩⟩
 obtain ⟨_,h2,h3⟩:=hown b k g hb a
 obtain ⟨_,h2',h3'⟩:=hown b' k' g hb' a'
 exact h.inj b b' k k' g h2 h2' l l' h3 h3'
theorem CallsA.ghostR {P:Program} {w0:World} {f:FuncId} {args:List A1} {H:List Blk} {R R':AV→List Blk→Prop} (h:CallsA P w0 f args H R) (hR:∀ r H',R r H' → ∃ H'',Ghost w0 H' H''∧R' r H''):CallsA P w0 f args H R':=by
 refine ⟨h.cal,fun ρ w vs hRH hA=>(h.out ρ w vs hRH hA).mono fun e w' he => ?_⟩
 obtain ⟨r,H',ρ',v,hr,rfl,hv,hRH',⟨u,rfl⟩,hfr,himg⟩:=he
 obtain ⟨H'',hg,hr2⟩:=hR r H' hr
 obtain ⟨t,h1,h2⟩:=hg _ w' hRH'
 exact ⟨r,H'',_,v,hr2,rfl,AV.R.more t hv,h1,⟨u++t,by rw [List.append_assoc]⟩,hfr,fun g hgi=>himg g (h2 g hgi)⟩
end Go.Vc
namespace Go.Proofs.YtbpogapddpacoaaGreatDoor
open Go Go.Vc
set_option maxRecDepth 100000
set_option maxHeartbeats 8000000
def encR:Enc Int:=⟨fun _ x=>[.val (.float .f32 (F32 x))],fun _ _ _ _ _ _=>rfl⟩
def flB (l:List Int):Blk := .vec true 51 encR [] 1 l
def scP (s:Sc) (co i o a b:CV):Sc:={ s with co:=co,i16:=i,o16:=o,ii:=a,dn:=b }
def rP (z:Z6) (F G D:List Int) (s:Sc) (co i o a b:CV):Blk:=zB z (tlC F G D (scP s co i o a b))
def slV:Nat→Nat→CV
 | 0,_=>nilC
 | n+1,id => .sli id 1 0 (n+1) (n+1)
def xa (q id:Nat) (n:Nat):CV:=if q=2 then slV n id else nilC
def xb (q id:Nat) (n:Nat):CV:=if q=3 then slV n id else nilC
def xc (q L:Nat):CV:=if q=3 then .vec 3 L else nilC
def xB (q:Nat) (l:List Int):Blk := .vec true (if q=3 then 21 else 29) (encI (if q=3 then .i32 else .i16)) [] 1 l
theorem slV_ren {σ:List Nat} {i j:Nat} (h:σ[i]? = some j) (n:Nat):(slV n i).ren σ = slV n j:=by
 cases n with
 | zero=>rfl
 | succ n=>simp [slV,CV.ren,h]
theorem xa_ren {σ:List Nat} {i j:Nat} (h:σ[i]? = some j) (q n:Nat):(xa q i n).ren σ = xa q j n:=by
 unfold xa
 split
 ·exact slV_ren h n
 rfl
theorem xb_ren {σ:List Nat} {i j:Nat} (h:σ[i]? = some j) (q n:Nat):(xb q i n).ren σ = xb q j n:=by
 unfold xb
 split
 ·exact slV_ren h n
 rfl
theorem xc_ren {σ:List Nat} (h:σ[3]? = some 3) (q L:Nat):(xc q L).ren σ = xc q L:=by
 unfold xc
 split
 ·simp [CV.ren,h]
 rfl
theorem rP_ren {σ:List Nat} {z:Z6} {F G D:List Int} {s:Sc} {co i o a b co' i' o' a' b':CV} (h1:co.ren σ = co') (h2:i.ren σ = i') (h3:o.ren σ = o') (h4:a.ren σ = a') (h5:b.ren σ = b') :
 (rP z F G D s co i o a b).ren σ = rP z F G D s co' i' o' a' b':=by
 subst h1 h2 h3 h4 h5
 unfold rP
 rw [zB_ren]
 rfl
theorem rP_embK {σ:List Nat} {z z':Z6} {F F' G G' D D':List Int} {s:Sc} {q L x y n:Nat} {i o i' o':CV} (hz:z=z') (hF:F=F') (hG:G=G') (hD:D=D') (h1:σ[3]? = some 3) (h2:i.ren σ = i') (h3:o.ren σ = o') (h4:σ[x]? = some y) :
 some (rP z' F' G' D' s (xc q L) i' o' (xa q y n) (xb q y n))=some ((rP z F G D s (xc q L) i o (xa q x n) (xb q x n)).ren σ):=by
 subst hz hF hG hD
 rw [rP_ren (xc_ren h1 q L) h2 h3 (xa_ren h4 q n) (xb_ren h4 q n)]
structure RArg (s:Sc) (b io N c oo on oc y:Nat) (xs D ys out:List Int):Prop where
 hD:D.length=48
 hx:∀ x∈xs,S16 x
 hN:xs.length=N
 hin:InOk b io xs D ys
 hc:N≤c
 hdv:s.fi∣N
 hon:y≤on
 hoc:on≤oc
 hoo:oo+y≤out.length
 hbig:out.length≤1000000
 hbN:N≤1000000
def fq:Nat→FuncId
 | 1=>24
 | 2=>25
 | _=>26
structure PK (w0:World) (q:Nat) (s:Sc) (co:List Int) (Lx:Nat) {σ:Type} (zO:σ → Z6) (F G:σ → List Int) (I:σ → Prop) (rn:σ → List Int→List Int × σ):Prop where
 hq:s.fn=q
 q3:q≤3
 hL:0<Lx
 hF:∀ t,I t→(F t).length=36
 hG:∀ t,I t→(G t).length=8
 inv:∀ t xs,I t→(∀ x∈xs,S16 x)→I (rn t xs).2
 out:∀ t xs,I t→(∀ x∈xs,S16 x) → ∀ y∈(rn t xs).1,S16 y
 len:∀ t xs,I t→s.fi∣xs.length→(rn t xs).1.length=xs.length / s.fi*s.fo
 cpy:q=0 → ∀ t xs,rn t xs=(xs,t)
 runX:q=1∨q=2∨q=3 → ∀ {t:σ} {l xs D ys out:List Int} {b io N c oo on oc Ni No:Nat},I t→(q=1∧l=[])∨(q≠1∧l.length=Lx)→RArg s b io N c oo on oc (rn t xs).1.length xs D ys out →
  CallsA Tryz.prog w0 (fq q) [.c (.ptr 0 0),.c (.sli 1 1 oo on oc),.c (.sli b 1 io N c)] [rP (zO t) (F t) (G t) D s (xc q co.length) (.sli 2 1 0 Ni Ni) (.sli 1 1 0 No No) (xa q 5 l.length) (xb q 5 l.length),sB out,sB ys,kB co,.dead,xB q l]
   fun r H=>r = .t [] ∧ ∃ l',l'.length=l.length∧H=[rP (zO (rn t xs).2) (F (rn t xs).2) (G (rn t xs).2) D s (xc q co.length) (.sli 2 1 0 Ni Ni) (.sli 1 1 0 No No) (xa q 5 l.length) (xb q 5 l.length),sB (wr out oo (rn t xs).1),sB ys,kB co,.dead,xB q l']
 runN:q=2∨q=3 → ∀ {t:σ} {xs D ys out:List Int} {b io N c oo on oc Ni No:Nat},I t→RArg s b io N c oo on oc (rn t xs).1.length xs D ys out →
  CallsA Tryz.prog w0 (fq q) [.c (.ptr 0 0),.c (.sli 1 1 oo on oc),.c (.sli b 1 io N c)] [rP (zO t) (F t) (G t) D s (xc q co.length) (.sli 2 1 0 Ni Ni) (.sli 1 1 0 No No) nilC nilC,sB out,sB ys,kB co,.dead]
   fun r H=>r = .t [] ∧ ∃ l',l'.length=Lx∧H=[rP (zO (rn t xs).2) (F (rn t xs).2) (G (rn t xs).2) D s (xc q co.length) (.sli 2 1 0 Ni Ni) (.sli 1 1 0 No No) (xa q 5 Lx) (xb q 5 Lx),sB (wr out oo (rn t xs).1),sB ys,kB co,.dead,xB q l']
def dly (h:List Int):List Int:=h++zr (48 - h.length)
theorem clr_eq2 {l:List Int} {a k e n:Nat} (ha:a=0) (hk:k=n) (he:e=n):l.take a++(List.replicate k 0++l.drop e)=List.replicate n 0++l.drop n:=by
 subst ha hk he
 rw [List.take_zero,List.nil_append]
theorem rP_embN {σ:List Nat} {z:Z6} {F G D:List Int} {s:Sc} {q L x:Nat} {i o i' o':CV} (h1:σ[3]? = some 3) (h2:i.ren σ = i') (h3:o.ren σ = o') :
 some (rP z F G D s (xc q L) i' o' (xa q x 0) (xb q x 0))=some ((rP z F G D s (xc q L) i o nilC nilC).ren σ):=by
 rw [rP_ren (xc_ren h1 q L) h2 h3 rfl rfl]
 have e1:xa q x 0=nilC:=by unfold xa; split <;> rfl
 have e2:xb q x 0=nilC:=by unfold xb; split <;> rfl
 rw [e1,e2]
 rfl
theorem tlC_dl {F G D:List Int} {s:Sc} (hF:F.length=36) (hG:G.length=8) (hD:D.length=48) {k:Nat} (hk:k≤48):((tlC F G D s).drop 44).take k=(D.take k).map (ci .i16):=by
 unfold tlC
 rw [← List.append_assoc,List.drop_left' (by simp [hF,hG]),List.take_append_of_le_length (by simp [hD]; omega),List.map_take]
theorem src_D {w0:World} {z:Z6} {F G D:List Int} {s:Sc} {H:List Blk} (hF:F.length=36) (hG:G.length=8) (hD:D.length=48) {k:Nat} (hk:k≤48):Vc.src w0 (zB z (tlC F G D s)::H) (encI .i16) [] 1 (.sli 0 1 50 k 48) (D.take k):=by
 refine ⟨rfl,by rw [List.length_take]; omega,?_⟩
 show dropF 44 (tlC F G D s) fun l=>takeF (k*1) l fun r=>flat (encI .i16) [] (D.take k)=r
 rw [Nat.mul_one]
 exact dropF_take (by rw [tlC_length hF hG hD]; decide) (tlC_dl hF hG hD hk) (by simp; omega) (flat_I _ _)
theorem rNum {fi fo dl n ol iL oL:Nat} (hfi:fi=8∨fi=12∨fi=16) (hfo:0<fo) (hfo2:fo≤48) (hdl:dl<fi) (hxf:fi≤n) (hol:ol≤60000) (hol0:0<ol) (ho3:oL≤100000) (hxb:n≤10000) (hi:n≤iL) (ho:ol+fo≤oL) (hs:fi=fo→ol=n) :
 fi - dl≤n - dl∧((n - dl:Nat):Int)≤(n:Int)∧(((dl:Nat):Int)≤((48:Nat):Int)∧((dl:Nat):Int)<((48:Nat):Int))∧((fi - dl:Nat):Int)≤(n:Int) ∧ ¬ (0:Int)=(n:Int) ∧
 min (((fi - dl:Nat):Int).toNat - Int.toNat 0) (((48:Nat):Int).toNat - ((dl:Nat):Int).toNat)=fi - dl∧fi - dl≤iL∧50+dl+(48 - dl)≤111∧((fi:Nat):Int)≤((48:Nat):Int) ∧
 ((fo:Nat):Int)≤((ol+fo:Nat):Int) ∧ ¬ ((fo:Nat):Int)=((ol+fo:Nat):Int)∧0+Int.toNat 0+(((ol+fo:Nat):Int).toNat - Int.toNat 0)≤oL ∧
 (fi=fo→min ((fi:Nat):Int).toNat (((ol+fo:Nat):Int).toNat - Int.toNat 0)=fi)∧fo+ol≤oL∧(fi=fo→min (n - fi) ol=n - fi)∧oL≤1000000∧fi≤1000000∧n - fi≤1000000:=by
 refine ⟨by omega,by omega,⟨by omega,by omega⟩,by omega,by omega,?_,by omega,by omega,by omega,by omega,?_,?_,?_,by omega,fun h => ?_,by omega,by omega,by omega⟩
 ·show min (fi - dl) (48 - dl)=fi - dl
  omega
 ·omega
 ·show 0+0+(ol+fo)≤oL
  omega
 ·intro h
  show min fi (ol+fo)=fi
  omega
 have:=hs h
 omega
theorem rNum2 {f ol o:Nat}:CV.sli 8 1 (0+Int.toNat 0+((f:Nat):Int).toNat) (((((ol+f:Nat):Int).toNat - Int.toNat 0:Nat):Int).toNat - ((f:Nat):Int).toNat) (o - Int.toNat 0 - ((f:Nat):Int).toNat) = .sli 8 1 f ol (o - f):=by
 show CV.sli 8 1 (0+0+f) (ol+f - f) (o - f)=_
 rw [Nat.add_sub_cancel,Nat.add_zero,Nat.zero_add]
theorem hvEx {fi dl n iL:Nat} (hdl:dl<fi) (hxf:fi≤n) (hi:n≤iL):∃ ro rc,(0<n - fi→ro=fi - dl)∧n - fi≤rc∧ro+(n - fi)≤iL∧(fi - dl<iL→CV.sli 7 1 (0+((fi - dl:Nat):Int).toNat) (((n - dl:Nat):Int).toNat - ((fi - dl:Nat):Int).toNat) (iL - ((fi - dl:Nat):Int).toNat) = .sli 7 1 ro (n - fi) rc) ∧
 (fi - dl=n → ¬ fi - dl<iL→CV.sli 7 1 0 0 0 = .sli 7 1 ro (n - fi) rc):=by
 by_cases hL:fi - dl<iL
 ·refine ⟨fi - dl,iL - (fi - dl),fun _=>rfl,by omega,by omega,fun _=>?_,fun _ h=>absurd hL h⟩
  show CV.sli 7 1 (0+(fi - dl)) ((n - dl) - (fi - dl)) (iL - (fi - dl))=_
  rw [Nat.zero_add,show n - dl - (fi - dl)=n - fi by omega]
 exact ⟨0,0,fun _=>by omega,by omega,by omega,fun h=>absurd h hL,fun _ _=>by rw [show n - fi=0 by omega]⟩
theorem hvEx2 {dl n iL:Nat} (hdl:dl≤n) (hi:n≤iL):∃ qo qc,(0<dl→qo=n - dl)∧qo+dl≤iL∧(n - dl<iL→CV.sli 7 1 (0+((n - dl:Nat):Int).toNat) ((n:Int).toNat - ((n - dl:Nat):Int).toNat) (iL - ((n - dl:Nat):Int).toNat) = .sli 7 1 qo dl qc) ∧
 (n - dl=n → ¬ n - dl<iL→CV.sli 7 1 0 0 0 = .sli 7 1 qo dl qc):=by
 by_cases hL:n - dl<iL
 ·refine ⟨n - dl,iL - (n - dl),fun _=>rfl,by omega,fun _=>?_,fun _ h=>absurd hL h⟩
  show CV.sli 7 1 (0+(n - dl)) (n - (n - dl)) (iL - (n - dl))=_
  rw [Nat.zero_add,show n - (n - dl)=dl by omega]
 exact ⟨0,0,fun _=>by omega,by omega,fun h=>absurd h hL,fun _ _=>by rw [show dl=0 by omega]⟩
theorem q4 {q:Nat} (h:q≤3):q=0∨q=1∨q=2∨q=3:=by omega
theorem hm_eq0 (e:Nat):(49+1)*1+e*1=50+0+e:=by omega
theorem inCut {xs i i1:List Int} (hi1:i1=wr i 0 xs) {qo dl:Nat} (hqo:0<dl→qo=xs.length - dl) (hdl:dl≤xs.length):(i1.drop qo).take dl=xs.drop (xs.length - dl):=by
 rcases Nat.eq_zero_or_pos dl with h0 | h0
 ·subst h0
  rw [List.take_zero,Nat.sub_zero,List.drop_length]
 rw [hqo h0,hi1]
 unfold wr
 rw [List.take_zero,List.nil_append,List.drop_append_of_le_length (by omega)]
 exact List.take_left' (by rw [List.length_drop]; omega)
theorem slV_pos {n id:Nat} (h:0<n):slV n id = .sli id 1 0 n n:=by
 cases n with
 | zero=>omega
 | succ n=>rfl
theorem wr0_get (l:List Int) {ys:List Int} {k:Nat} {x:Int} (h:ys[k]? = some x):(wr l 0 ys)[0+k]? = some x:=by
 unfold wr
 rw [List.take_zero,List.nil_append,Nat.zero_add,Nat.zero_add,List.getElem?_append_left (List.getElem?_eq_some_iff.1 h).1]
 exact h
theorem wr_full {l ys:List Int} (h:l.length=ys.length):wr l 0 ys=ys:=by
 unfold wr
 rw [List.take_zero,List.nil_append,Nat.zero_add,List.drop_eq_nil_of_le (by omega),List.append_nil]
theorem hn_eq (d:Nat):(49+1+d)*1=50+d:=by omega
theorem hm_eq (d e:Nat):(49+1+d)*1+e*1=50+d+e:=by omega
theorem hn_le {d m:Nat} (h:50+d+m≤111):(49+1+d+m)*1≤111:=by omega
theorem cells_len {z:Z6} {F G D:List Int} {s:Sc} (hF:F.length=36) (hG:G.length=8) (hD:D.length=48):(ci .i32 z.a::ci .i32 z.b::ci .i32 z.c::ci .i32 z.d::ci .i32 z.e::ci .i32 z.f::tlC F G D s).length=111:=by
 simp only [List.length_cons,tlC_length hF hG hD]
theorem put_D {z:Z6} {F G D D':List Int} {s:Sc} (hF:F.length=36) (hG:G.length=8) (hD:D.length=48) {T:List CV} {n m k:Nat} (h:k+D'.length≤48) (hT:T=(ci .i32 z.a::ci .i32 z.b::ci .i32 z.c::ci .i32 z.d::ci .i32 z.e::ci .i32 z.f::tlC F G D s)) (hn:n=50+k) (hm:m=50+k+D'.length) :
 Blk.cells 46 (T.take n++(flat (encI .i16) [] D'++T.drop m))=zB z (tlC F G (D.take k++(D'++D.drop (k+D'.length))) s):=by
 subst hT hn hm
 rw [flat_I,← tlC_putD hF hG hD h,show 50+k=44+k+1+1+1+1+1+1 by omega,show 44+k+1+1+1+1+1+1+D'.length=44+k+D'.length+1+1+1+1+1+1 by omega]
 rfl
def raS (n m ol:Nat):Env:=[(0,.o (.c (.ptr 0 0))),(1,.o (.c (.vec 1 n))),(2,.o (.c (.vec 2 m))),(7,.o (.c (.val (.int .i64 (ol:Nat)))))]
theorem rResW (w0:World) {q Lx Ni No Mi Mo:Nat} {s:Sc} {co:List Int} {σ:Type} {zO:σ → Z6} {F G:σ → List Int} {I:σ → Prop} {rn:σ → List Int→List Int × σ} (hpk:PK w0 q s co Lx zO F G I rn)
 {t:σ} {h xs y0 i0 o0 l:List Int} (ht:I t) (hh:h.length=s.fi) (hhS:∀ x∈h,S16 x) (hfi:s.fi=8∨s.fi=12∨s.fi=16) (hfo:0<s.fo) (hfo2:s.fo≤48) (hdl:s.dl<s.fi) (hx:∀ x∈xs,S16 x) (hxl:s.fi∣xs.length) (hx0:0<xs.length) (hxb:xs.length≤10000)
 (hi0:i0.length=Ni) (ho0:o0.length=No) (hNi:Ni≤Mi) (hMi:xs.length≤Mi) (hMi2:Mi≤100000) (hNo:No≤Mo) (hMo:y0.length+s.fo≤Mo) (hMo2:Mo≤100000) (hl:l=[]∨(q≠0∧q≠1∧l.length=Lx)) (hy0:y0.length=xs.length / s.fi*s.fo) :
 CallsA Tryz.prog w0 14 [.c (.ptr 0 0),.c (.vec 1 xs.length),.c (.vec 2 y0.length)] [rP (zO t) (F t) (G t) (dly h) s (xc q co.length) (slV Ni 4) (slV No 5) (xa q 6 l.length) (xb q 6 l.length),flB xs,flB y0,kB co,sB i0,sB o0,xB q l]
  fun r H=>r = .o (.c (.val .nilIface)) ∧ ∃ i1 o1 l',i1.length≤Mi∧o1.length≤Mo∧(l'=[]∨(q≠0∧q≠1∧l'.length=Lx)) ∧
   H=[rP (zO (piece rn s.fi s.dl t h xs).2.1) (F (piece rn s.fi s.dl t h xs).2.1) (G (piece rn s.fi s.dl t h xs).2.1) (dly (piece rn s.fi s.dl t h xs).2.2) s (xc q co.length) (slV i1.length 7) (slV o1.length 8) (xa q 9 l'.length) (xb q 9 l'.length),flB xs,flB (piece rn s.fi s.dl t h xs).1,kB co,.dead,.dead,.dead,sB i1,sB o1,xB q l']:=by
 have hF:=hpk.hF t ht
 have hG:=hpk.hG t ht
 have hD:(dly h).length=48:=by unfold dly zr; rw [List.length_append,List.length_replicate]; omega
 have hk48:s.dl+(xs.take (s.fi - s.dl)).length≤48:=by rw [List.length_take]; omega
 obtain ⟨K,hK⟩:=hxl
 have hKf:K*s.fi=xs.length:=by rw [hK,Nat.mul_comm]
 have hKd:xs.length / s.fi=K:=by rw [hK]; exact Nat.mul_div_cancel_left _ (by omega)
 rw [hKd] at hy0
 obtain ⟨ol,hol⟩:∃ ol,ol=K*s.fo:=⟨_,rfl⟩
 rw [← hol] at hy0
 rw [hy0] at hMo
 have hxf:s.fi≤xs.length:=Nat.le_of_dvd hx0 ⟨K,hK⟩
 obtain ⟨hKo,hKp,hKb,hKs⟩:ol≤60000∧xs.length*s.fo=ol*s.fi∧ol*s.fi≤480000∧(s.fi=s.fo→ol=xs.length):=by
  have h1:K*8≤K*s.fi:=Nat.mul_le_mul_left K (by omega)
  have h2:K*s.fo≤1250*48:=Nat.mul_le_mul (by omega) hfo2
  have h3:xs.length*s.fo=K*s.fo*s.fi:=by rw [← hKf,Nat.mul_right_comm]
  have h4:xs.length*s.fo≤10000*48:=Nat.mul_le_mul hxb hfo2
  rw [← hol] at h2 h3
  exact ⟨h2,h3,by rw [← h3]; exact h4,fun h=>by rw [hol,← h,hKf]⟩
 have e1:IntKind.i64.wrap ((xs.length:Int)*(s.fo:Int))=((ol*s.fi:Nat):Int):=by rw [nmul,hKp,wi64 (by omega)]
 have e4:IntKind.i64.wrap (((ol:Nat):Int)+(s.fo:Int))=((ol+s.fo:Nat):Int):=by rw [nadd,wi64 (by omega)]
 have e2:((ol*s.fi:Nat):Int).tmod (s.fi:Int)=((0:Nat):Int):=by rw [ntmod,Nat.mul_mod_left]
 have e3:IntKind.i64.wrap (((ol*s.fi:Nat):Int).tdiv (s.fi:Int))=((ol:Nat):Int):=by rw [ntdiv,Nat.mul_div_cancel _ (by omega),wi64 (by omega)]
 clear hKp hKb
 have e5:IntKind.i64.wrap ((s.fi:Int) - (s.dl:Int))=((s.fi - s.dl:Nat):Int):=by rw [wi64 (by omega)]; omega
 have e6:IntKind.i64.wrap ((xs.length:Int) - (s.dl:Int))=((xs.length - s.dl:Nat):Int):=by rw [wi64 (by omega)]; omega
 have g8:(xs.take (s.fi - s.dl)).length=s.fi - s.dl:=by rw [List.length_take]; omega
 obtain ⟨Q,hQ⟩:∃ Q,Q=pcH s.fi s.dl h xs:=⟨_,rfl⟩
 have hQl:Q.length=s.fi:=by rw [hQ]; unfold pcH; rw [List.length_append,List.length_take,List.length_take]; omega
 have hDQ:(dly Q).length=48:=by unfold dly zr; rw [List.length_append,List.length_replicate]; omega
 have hQx:∀ x∈Q,S16 x:=by
  intro x hxm
  rw [hQ] at hxm
  rcases List.mem_append.1 hxm with h1 | h1
  ·exact hhS x (List.mem_of_mem_take h1)
  exact hx x (List.mem_of_mem_take h1)
 have hD1:(dly h).take s.dl++(xs.take (s.fi - s.dl)++(dly h).drop (s.dl+(xs.take (s.fi - s.dl)).length))=dly Q:=by
  unfold dly
  rw [hQl,hQ,g8,List.take_append_of_le_length (by omega),show s.dl+(s.fi - s.dl)=h.length by omega,List.drop_left]
  unfold pcH
  rw [hh,List.append_assoc]
 obtain ⟨R,hR⟩:∃ R,R=pcR s.fi s.dl xs:=⟨_,rfl⟩
 have hRl:R.length=xs.length - s.fi:=by rw [hR]; unfold pcR; rw [List.length_take,List.length_drop]; omega
 have hRx:∀ x∈R,S16 x:=by
  intro x hxm
  rw [hR] at hxm
  exact hx x (List.mem_of_mem_drop (List.mem_of_mem_take hxm))
 obtain ⟨p1,hp1⟩:∃ p1,p1=rn t Q:=⟨_,rfl⟩
 obtain ⟨p,hp⟩:∃ p,p=rn p1.2 R:=⟨_,rfl⟩
 have hpe:piece rn s.fi s.dl t h xs=(p1.1++p.1,p.2,xs.drop (xs.length - s.dl)++Q.drop s.dl):=by
  unfold piece
  rw [← hQ,← hR,← hp1,← hp]
 have hI1:I p1.2:=by rw [hp1]; exact hpk.inv t Q ht hQx
 have hI2:I p.2:=by rw [hp]; exact hpk.inv p1.2 R hI1 hRx
 have hF2:=hpk.hF _ hI1
 have hG2:=hpk.hG _ hI1
 have hF3:=hpk.hF _ hI2
 have hG3:=hpk.hG _ hI2
 have hp1l:p1.1.length=s.fo:=by
  have:=hpk.len t Q ht (by rw [hQl]; exact Nat.dvd_refl _)
  rw [← hp1,hQl,Nat.div_self (by omega)] at this
  omega
 have hdv2:s.fi∣xs.length - s.fi:=Nat.dvd_sub ⟨K,hK⟩ (Nat.dvd_refl _)
 have hpl:p.1.length+s.fo=ol:=by
  have:=hpk.len p1.2 R hI1 (by rw [hRl]; exact hdv2)
  obtain ⟨j,rfl⟩:∃ j,K=j+1:=by
   rcases Nat.eq_zero_or_pos K with h | h
   ·subst h; omega
   exact ⟨K - 1,by omega⟩
  rw [← hp,hRl,show (xs.length - s.fi) / s.fi=j by rw [hK,Nat.mul_add,Nat.mul_one,Nat.add_sub_cancel]; exact Nat.mul_div_cancel_left _ (by omega)] at this
  rw [this,hol,Nat.succ_mul]
 have hol0:0<ol:=by omega
 clear hK hKf hKd hol K
 have hsD:∀ (s':Sc) (H:List Blk),Vc.src w0 (zB (zO t) (tlC (F t) (G t) (dly Q) s')::H) (encI .i16) [] 1 (.sli 0 1 50 s.fi 48) Q:=by
  intro s' H
  have:=src_D (w0:=w0) (z:=zO t) (s:=s') (H:=H) hF hG hDQ (k:=s.fi) (by omega)
  rw [show (dly Q).take s.fi=Q by unfold dly; rw [← hQl]; exact List.take_left' rfl] at this
  exact this
 refine callsA_of_ev c14_ ?_
 conv=>whnf
 refine Or.inl ?_
 conv=>whnf
 refine dropF_get (x:=ci .i64 ((s.fi:Nat):Int)) (tlC_get hF hG hD (i:=5) rfl) ?_
 conv=>whnf
 refine ⟨fun h=>absurd (beq_t h) (by omega),fun _=>?_⟩
 conv=>whnf
 refine Or.inl ?_
 conv=>whnf
 refine dropF_get (x:=ci .i64 ((s.fi:Nat):Int)) (tlC_get hF hG hD (i:=5) rfl) ?_
 conv=>whnf
 refine ⟨fun h=>absurd (lt_t h) (by omega),fun _=>?_⟩
 conv=>whnf
 refine dropF_get (x:=ci .i64 ((s.fo:Nat):Int)) (tlC_get hF hG hD (i:=6) rfl) ?_
 conv=>whnf
 refine Or.inl ?_
 conv=>whnf
 refine dropF_get (x:=ci .i64 ((s.fi:Nat):Int)) (tlC_get hF hG hD (i:=5) rfl) ?_
 conv=>whnf
 rw [e1]
 refine ⟨(by omega),?_⟩
 conv=>whnf
 rw [e2]
 refine ⟨fun h=>absurd h (by decide),fun _=>?_⟩
 conv=>whnf
 refine dropF_get (x:=ci .i64 ((s.fi:Nat):Int)) (tlC_get hF hG hD (i:=5) rfl) ?_
 conv=>whnf
 refine ⟨(by omega),?_⟩
 conv=>whnf
 rw [e3]
 refine Or.inl ?_
 conv=>whnf
 rw [hy0]
 refine ⟨fun h=>absurd (lt_t h) (by omega),fun _=>?_⟩
 conv=>whnf
 refine Or.inr ⟨{i:List Int // xs.length≤i.length∧i.length≤Mi},fun ⟨i,_⟩=>⟨raS xs.length (ol) (ol),[rP (zO t) (F t) (G t) (dly h) s (xc q co.length) (.sli 7 1 0 i.length i.length) (slV No 5) (xa q 6 l.length) (xb q 6 l.length),flB xs,flB y0,kB co,.dead,sB o0,xB q l,sB i]⟩,?_,fun ⟨i,hi,hi2⟩ => ?_⟩
 ·cases Ni with
  | zero =>
   conv=>whnf
   refine dropF_get (x:=nilC) (tlC_get hF hG hD (i:=9) rfl) ?_
   conv=>whnf
   refine ⟨fun _=>?_,fun h=>absurd (lt_f h) (by omega)⟩
   conv=>whnf
   refine ⟨⟨by omega,by omega,by omega,by omega,by decide⟩,?_⟩
   conv=>whnf
   refine ⟨Int,encI .i16,[],0,fun _=>rfl,rfl,?_⟩
   conv=>whnf
   refine Or.inr ?_
   conv=>whnf
   refine putF_to (n:=101) (by rw [tlC_length hF hG hD]; decide) (tlC_set hF hG hD (i:=9) (s':=scP s (xc q co.length) (.sli 7 1 0 xs.length xs.length) (slV No 5) (xa q 6 l.length) (xb q 6 l.length)) rfl) ?_
   conv=>whnf
   exact ⟨⟨List.replicate xs.length 0,by rw [List.length_replicate]; omega⟩,[0,1,2,3,4,5,6,7],⟨rfl,⟨rP_embK rfl rfl rfl rfl rfl (by rw [List.length_replicate]; rfl) (slV_ren rfl No) rfl,rfl,rfl,rfl,rfl,rfl,rfl,rfl,lk 8 rfl rfl,rfl,rfl,rfl,rfl,rfl,rfl,trivial⟩,rfl⟩,rfl,rfl,rfl,rfl,trivial⟩
  | succ Ni =>
   conv=>whnf
   refine dropF_get (x := .sli 4 1 0 (Ni+1) (Ni+1)) (tlC_get hF hG hD (i:=9) rfl) ?_
   conv=>whnf
   refine ⟨fun _=>?_,fun hlt => ?_⟩
   ·conv=>whnf
    refine ⟨⟨by omega,by omega,by omega,by omega,by decide⟩,?_⟩
    conv=>whnf
    refine ⟨Int,encI .i16,[],0,fun _=>rfl,rfl,?_⟩
    conv=>whnf
    refine Or.inr ?_
    conv=>whnf
    refine putF_to (n:=101) (by rw [tlC_length hF hG hD]; decide) (tlC_set hF hG hD (i:=9) (s':=scP s (xc q co.length) (.sli 7 1 0 xs.length xs.length) (slV No 5) (xa q 6 l.length) (xb q 6 l.length)) rfl) ?_
    conv=>whnf
    exact ⟨⟨List.replicate xs.length 0,by rw [List.length_replicate]; omega⟩,[0,1,2,3,4,5,6,7],⟨rfl,⟨rP_embK rfl rfl rfl rfl rfl (by rw [List.length_replicate]; rfl) (slV_ren rfl No) rfl,rfl,rfl,rfl,rfl,rfl,rfl,rfl,lk 8 rfl rfl,rfl,rfl,rfl,rfl,rfl,rfl,trivial⟩,rfl⟩,rfl,rfl,rfl,rfl,trivial⟩
   have hlt:xs.length≤Ni+1:=lt_f hlt
   conv=>whnf
   exact ⟨⟨i0,by omega⟩,[0,1,2,3,4,5,6,4],⟨rfl,⟨rP_embK rfl rfl rfl rfl rfl (by rw [hi0]; rfl) (slV_ren rfl No) rfl,rfl,rfl,rfl,rfl,rfl,rfl,rfl,lk 7 rfl rfl,rfl,rfl,rfl,rfl,rfl,rfl,trivial⟩,rfl⟩,rfl,rfl,rfl,rfl,trivial⟩
 conv=>whnf
 refine dropF_get (x := .sli 7 1 0 i.length i.length) (tlC_get hF hG hD (i:=9) rfl) ?_
 conv=>whnf
 refine ⟨⟨by omega,by omega,by omega⟩,?_⟩
 conv=>whnf
 refine ⟨fun _=>?_,fun h1 h2=>absurd h1 (by omega)⟩
 conv=>whnf
 refine Or.inl ?_
 conv=>whnf
 refine ⟨{k:Nat // k≤xs.length},fun ⟨k,_⟩=>⟨(8,.o (.c (.sli 7 1 0 xs.length i.length)))::(75,.o (.c (.vec 1 xs.length)))::(76,.o (.c (.val (.int .i64 xs.length))))::(77,.o (.c (.val (.int .i64 k))))::raS xs.length (ol) (ol),[rP (zO t) (F t) (G t) (dly h) s (xc q co.length) (.sli 7 1 0 i.length i.length) (slV No 5) (xa q 6 l.length) (xb q 6 l.length),flB xs,flB y0,kB co,.dead,sB o0,xB q l,sB (wr i 0 (xs.take k))]⟩,fun k=>xs.length - k.1,⟨⟨0,Nat.zero_le _⟩,?_⟩,fun ⟨k,hk⟩ => ?_⟩
 ·exact ⟨[0,1,2,3,4,5,6,7],⟨rfl,⟨rP_embK rfl rfl rfl rfl rfl rfl (slV_ren rfl No) rfl,rfl,rfl,rfl,rfl,rfl,rfl,rfl,lk 8 rfl rfl,rfl,rfl,rfl,rfl,rfl,rfl,trivial⟩,rfl⟩,rfl,rfl,rfl,rfl,rfl,rfl,rfl,rfl,trivial⟩
 conv=>whnf
 refine ⟨fun h3 => ?_,fun h3 => ?_⟩
 ·have h3:k<xs.length:=lt_t h3
  obtain ⟨x,hxk⟩:∃ x,xs[k]? = some x:=⟨_,List.getElem?_eq_getElem h3⟩
  conv=>whnf
  refine ⟨⟨Int.natCast_nonneg _,Int.ofNat_lt.2 h3⟩,?_⟩
  conv=>whnf
  refine ⟨x,hxk,?_⟩
  conv=>whnf
  refine callV (f2sW w0 (hx x (List.mem_of_getElem? hxk))) rfl ?_
  conv=>whnf
  refine ⟨⟨Int.natCast_nonneg _,Int.ofNat_lt.2 h3⟩,?_⟩
  conv=>whnf
  obtain ⟨g0,hg0⟩:=wr_get i 0 (xs.take k) (0+k) (by rw [List.length_take]; omega) (by omega)
  refine ⟨g0,x,hg0,rfl,?_⟩
  rw [show ((k:Nat):Int).toNat=k from rfl,wr_set i 0 (xs.take k) (0+k) x (by rw [List.length_take]; omega) (by omega)]
  conv=>whnf
  rw [ninc (by omega),show xs.take k++[x]=xs.take (k+1) by rw [List.take_add_one,hxk]; rfl]
  refine ⟨⟨k+1,h3⟩,?_,Nat.sub_lt_sub_left h3 (Nat.lt_succ_self k)⟩
  exact ⟨[0,1,2,3,4,5,6,7],⟨rfl,⟨rP_embK rfl rfl rfl rfl rfl rfl (slV_ren rfl No) rfl,rfl,rfl,rfl,rfl,rfl,rfl,rfl,lk 8 rfl rfl,rfl,rfl,rfl,rfl,rfl,rfl,trivial⟩,rfl⟩,rfl,rfl,rfl,rfl,rfl,rfl,rfl,rfl,trivial⟩
 have h3:xs.length≤k:=lt_f h3
 conv=>whnf
 rw [List.take_of_length_le h3]
 obtain ⟨i1,hi1⟩:∃ i1,i1=wr i 0 xs:=⟨_,rfl⟩
 have hi1l:i1.length=i.length:=by rw [hi1,wr_length _ _ _ (by omega)]
 have hi1x:∀ (k:Nat) x,xs[k]? = some x→i1[k]? = some x:=by
  intro k x hkx
  rw [hi1]
  unfold wr
  rw [List.take_zero,List.nil_append,List.getElem?_append_left (List.getElem?_eq_some_iff.1 hkx).1]
  exact hkx
 have hi1t:∀ m,m≤xs.length→i1.take m=xs.take m:=by
  intro m hm
  rw [hi1]
  unfold wr
  rw [List.take_zero,List.nil_append,List.take_append_of_le_length hm]
 rw [← hi1,← hi1l]
 refine Or.inr ⟨{o:List Int // ol+s.fo≤o.length∧o.length≤Mo},fun ⟨o,_⟩=>⟨(8,.o (.c (.sli 7 1 0 xs.length i1.length)))::raS xs.length (ol) (ol),[rP (zO t) (F t) (G t) (dly h) s (xc q co.length) (.sli 7 1 0 i1.length i1.length) (.sli 8 1 0 o.length o.length) (xa q 6 l.length) (xb q 6 l.length),flB xs,flB y0,kB co,.dead,.dead,xB q l,sB i1,sB o]⟩,?_,fun ⟨o,ho,ho2⟩ => ?_⟩
 ·cases No with
  | zero =>
   conv=>whnf
   refine dropF_get (x:=nilC) (tlC_get hF hG hD (i:=10) rfl) ?_
   conv=>whnf
   refine dropF_get (x:=ci .i64 ((s.fo:Nat):Int)) (tlC_get hF hG hD (i:=6) rfl) ?_
   conv=>whnf
   rw [e4]
   refine ⟨fun _=>?_,fun h=>absurd (lt_f h) (by omega)⟩
   conv=>whnf
   refine dropF_get (x:=ci .i64 ((s.fo:Nat):Int)) (tlC_get hF hG hD (i:=6) rfl) ?_
   conv=>whnf
   rw [e4]
   refine ⟨⟨by omega,by omega,by omega,by omega,by decide⟩,?_⟩
   conv=>whnf
   refine ⟨Int,encI .i16,[],0,fun _=>rfl,rfl,?_⟩
   conv=>whnf
   refine Or.inr ?_
   conv=>whnf
   refine putF_to (n:=102) (by rw [tlC_length hF hG hD]; decide) (tlC_set hF hG hD (i:=10) (s':=scP s (xc q co.length) (.sli 7 1 0 i1.length i1.length) (.sli 8 1 0 (ol+s.fo) (ol+s.fo)) (xa q 6 l.length) (xb q 6 l.length)) rfl) ?_
   conv=>whnf
   exact ⟨⟨List.replicate (ol+s.fo) 0,by rw [List.length_replicate]; omega⟩,[0,1,2,3,4,5,6,7,8],⟨rfl,⟨rP_embK rfl rfl rfl rfl rfl rfl (by rw [List.length_replicate]; rfl) rfl,rfl,rfl,rfl,rfl,rfl,rfl,rfl,lk 9 rfl rfl,lk 9 rfl rfl,rfl,rfl,rfl,rfl,rfl,rfl,trivial⟩,rfl⟩,rfl,rfl,rfl,rfl,rfl,trivial⟩
  | succ No =>
   conv=>whnf
   refine dropF_get (x := .sli 5 1 0 (No+1) (No+1)) (tlC_get hF hG hD (i:=10) rfl) ?_
   conv=>whnf
   refine dropF_get (x:=ci .i64 ((s.fo:Nat):Int)) (tlC_get hF hG hD (i:=6) rfl) ?_
   conv=>whnf
   rw [e4]
   refine ⟨fun _=>?_,fun hlt => ?_⟩
   ·conv=>whnf
    refine dropF_get (x:=ci .i64 ((s.fo:Nat):Int)) (tlC_get hF hG hD (i:=6) rfl) ?_
    conv=>whnf
    rw [e4]
    refine ⟨⟨by omega,by omega,by omega,by omega,by decide⟩,?_⟩
    conv=>whnf
    refine ⟨Int,encI .i16,[],0,fun _=>rfl,rfl,?_⟩
    conv=>whnf
    refine Or.inr ?_
    conv=>whnf
    refine putF_to (n:=102) (by rw [tlC_length hF hG hD]; decide) (tlC_set hF hG hD (i:=10) (s':=scP s (xc q co.length) (.sli 7 1 0 i1.length i1.length) (.sli 8 1 0 (ol+s.fo) (ol+s.fo)) (xa q 6 l.length) (xb q 6 l.length)) rfl) ?_
    conv=>whnf
    exact ⟨⟨List.replicate (ol+s.fo) 0,by rw [List.length_replicate]; omega⟩,[0,1,2,3,4,5,6,7,8],⟨rfl,⟨rP_embK rfl rfl rfl rfl rfl rfl (by rw [List.length_replicate]; rfl) rfl,rfl,rfl,rfl,rfl,rfl,rfl,rfl,lk 9 rfl rfl,lk 9 rfl rfl,rfl,rfl,rfl,rfl,rfl,rfl,trivial⟩,rfl⟩,rfl,rfl,rfl,rfl,rfl,trivial⟩
   have hlt:ol+s.fo≤No+1:=lt_f hlt
   conv=>whnf
   exact ⟨⟨o0,by omega⟩,[0,1,2,3,4,5,6,7,5],⟨rfl,⟨rP_embK rfl rfl rfl rfl rfl rfl (by rw [ho0]; rfl) rfl,rfl,rfl,rfl,rfl,rfl,rfl,rfl,lk 8 rfl rfl,lk 8 rfl rfl,rfl,rfl,rfl,rfl,rfl,rfl,trivial⟩,rfl⟩,rfl,rfl,rfl,rfl,rfl,trivial⟩
 conv=>whnf
 refine dropF_get (x := .sli 8 1 0 o.length o.length) (tlC_get hF hG hD (i:=10) rfl) ?_
 conv=>whnf
 refine dropF_get (x:=ci .i64 ((s.fo:Nat):Int)) (tlC_get hF hG hD (i:=6) rfl) ?_
 conv=>whnf
 rw [e4]
 refine ⟨⟨by omega,by omega,by omega⟩,?_⟩
 conv=>whnf
 refine ⟨fun _=>?_,fun h1 h2=>absurd h1 (by omega)⟩
 conv=>whnf
 refine ⟨trivial,?_⟩
 conv=>whnf
 refine ⟨by omega,?_⟩
 conv=>whnf
 refine ⟨0,rfl,?_⟩
 conv=>whnf
 rw [clr_eq2 (n:=ol+s.fo) (by omega) (by omega) (by omega)]
 refine dropF_get (x:=ci .i64 ((s.fi:Nat):Int)) (tlC_get hF hG hD (i:=5) rfl) ?_
 conv=>whnf
 refine dropF_get (x:=ci .i64 ((s.dl:Nat):Int)) (tlC_get hF hG hD (i:=7) rfl) ?_
 conv=>whnf
 rw [e5]
 refine dropF_get (x:=ci .i64 ((s.dl:Nat):Int)) (tlC_get hF hG hD (i:=7) rfl) ?_
 conv=>whnf
 rw [e6]
 obtain ⟨ro,rc,hro,hrc,hrol,hv1,hv2⟩:=hvEx (n:=xs.length) (iL:=i1.length) hdl hxf (by rw [hi1l]; exact hi)
 obtain ⟨o2,ho2e⟩:∃ o2,o2=List.replicate (ol+s.fo) 0++o.drop (ol+s.fo):=⟨_,rfl⟩
 have ho2l:o2.length=o.length:=by rw [ho2e,List.length_append,List.length_replicate,List.length_drop]; omega
 rw [← ho2e]
 rw [hpe]
 have hRi:(i1.drop ro).take (xs.length - s.fi)=R:=by
  rw [hR]
  unfold pcR
  rcases Nat.eq_zero_or_pos (xs.length - s.fi) with h0 | h0
  ·rw [h0,List.take_zero,List.take_zero]
  rw [hro h0,hi1]
  unfold wr
  rw [List.take_zero,List.nil_append,List.drop_append_of_le_length (by omega),List.take_append_of_le_length (by rw [List.length_drop]; omega)]
 obtain ⟨g1,g2,g3,g4,g5,g6,g7,g10,g11,g12,g13,g16,g17,g18',g19,a1,a2,a3⟩:=rNum hfi hfo hfo2 hdl hxf hKo hol0 (Nat.le_trans ho2 hMo2) hxb (show xs.length≤i1.length by rw [hi1l]; exact hi) ho hKs
 have g15:=rNum2 (f:=s.fo) (ol:=ol) (o:=o.length)
 have g9:i1.take (s.fi - s.dl)=xs.take (s.fi - s.dl):=hi1t _ (Int.ofNat_le.1 g4)
 have hA1:RArg s 0 50 s.fi 48 0 (ol+s.fo) o.length (rn t Q).1.length Q (dly Q) i1 o2:=⟨hDQ,hQx,hQl,.inl ⟨rfl,0,rfl,fun k x hk=>by rw [Nat.zero_add]; unfold dly; rw [List.getElem?_append_left (List.getElem?_eq_some_iff.1 hk).1]; exact hk⟩,Int.ofNat_le.1 g11,Nat.dvd_refl _,by rw [← hp1,hp1l]; exact Nat.le_add_left _ _,ho,by rw [← hp1,hp1l,ho2l,Nat.zero_add]; exact Nat.le_trans (Nat.le_add_left _ _) ho,by rw [ho2l]; exact a1,a2⟩
 have hwl:(wr o2 0 p1.1).length=o.length:=by rw [wr_length _ _ _ (by rw [hp1l,ho2l,Nat.zero_add]; exact Nat.le_trans (Nat.le_add_left _ _) ho),ho2l]
 have hA2:RArg s 2 ro (xs.length - s.fi) rc s.fo ol (o.length - s.fo) (rn p1.2 R).1.length R (dly Q) i1 (wr o2 0 p1.1):=⟨hDQ,hRx,hRl,.inr ⟨rfl,fun k x hk=>by
  have hkR:=(List.getElem?_eq_some_iff.1 hk).1
  rw [hRl] at hkR
  rw [hro (Nat.lt_of_le_of_lt (Nat.zero_le _) hkR)]
  rw [hR] at hk
  unfold pcR at hk
  have h2:=tkd hk
  rw [List.getElem?_drop] at h2
  exact hi1x _ _ h2⟩,hrc,hdv2,by rw [← hp]; exact Nat.le.intro hpl,Nat.le_sub_of_add_le ho,by rw [← hp,hwl,Nat.add_comm,hpl]; exact Nat.le_trans (Nat.le_add_right _ _) ho,by rw [hwl]; exact a1,a3⟩
 have a4:s.dl≤xs.length:=Nat.le_trans (Nat.le_of_lt hdl) hxf
 have a5:xs.length≤i1.length:=by rw [hi1l]; exact hi
 have g14:0+p1.1.length≤o2.length:=by rw [hp1l,ho2l,Nat.zero_add]; exact Nat.le_trans (Nat.le_add_left _ _) ho
 have g18:s.fi=s.fo→s.fo+ol≤(wr o2 0 Q).length:=fun h=>by rw [wr_length _ _ _ (by rw [hQl,ho2l,Nat.zero_add,h]; exact Nat.le_trans (Nat.le_add_left _ _) ho),ho2l]; exact g18'
 rw [← ho2l] at g16
 refine ⟨⟨Int.natCast_nonneg _,Int.ofNat_le.2 g1,g2⟩,fun hL => ?_,fun hE hN => ?_⟩
 all_goals
  first
  | rw [hv1 (Int.ofNat_lt.1 hL)]
  | rw [hv2 (Int.ofNat.inj hE) (fun h=>hN (Int.ofNat_lt.2 h))]
  clear hv1 hv2
  conv=>whnf
  refine dropF_get (x:=ci .i64 ((s.dl:Nat):Int)) (tlC_get hF hG hD (i:=7) rfl) ?_
  conv=>whnf
  refine ⟨⟨⟨Int.natCast_nonneg _,g3.1,Int.le_refl _⟩,g3.2⟩,?_⟩
  conv=>whnf
  refine ⟨⟨Int.le_refl _,Int.natCast_nonneg _,g4⟩,?_⟩
  conv=>whnf
  refine ⟨fun _=>?_,fun h1 h2=>absurd h1 g5⟩
  conv=>whnf
  refine ⟨⟨dropF_get (x:=ci .i64 ((s.dl:Nat):Int)) (tlC_get hF hG hD (i:=7) rfl) ⟨rfl,rfl⟩,trivial⟩,?_⟩
  conv=>whnf
  refine ⟨Nat.le_trans (hn_le g10) (Nat.le_of_eq (cells_len hF hG hD).symm),?_⟩
  conv=>whnf
  rw [g6]
  refine ⟨Int,encI .i16,[],xs.take (s.fi - s.dl),fun _=>rfl,⟨rfl,rfl,Nat.le_trans (Nat.le_of_eq (Nat.zero_add _)) g7,g8,?_⟩,?_⟩
  ·rw [show 0+Int.toNat 0=0 from rfl,List.drop_zero,g9]
  conv=>whnf
  rw [put_D hF hG hD (k:=s.dl) hk48 rfl ?hn ?hm]
  case hn=>exact hn_eq s.dl
  case hm=>exact hm_eq s.dl _
  rw [hD1]
  refine ⟨trivial,?_⟩
  conv=>whnf
  refine Or.inr ⟨{l':List Int // l'=[]∨(q≠0∧q≠1∧l'.length=Lx)},fun ⟨l',_⟩=>⟨(8,.o (.c (.sli 7 1 0 xs.length i1.length)))::(10,.o (.c (.sli 8 1 0 (ol+s.fo) o.length)))::raS xs.length (ol) (ol),[rP (zO p.2) (F p.2) (G p.2) (dly Q) s (xc q co.length) (.sli 7 1 0 i1.length i1.length) (.sli 8 1 0 o.length o.length) (xa q 9 l'.length) (xb q 9 l'.length),flB xs,flB y0,kB co,.dead,.dead,.dead,sB i1,sB (wr o2 0 (p1.1++p.1)),xB q l']⟩,?_,fun ⟨l',hl'⟩ => ?_⟩
  ·conv=>whnf
   refine dropF_get (x:=ci .i64 ((s.fn:Nat):Int)) (tlC_get hF hG hDQ (i:=0) rfl) ?_
   conv=>whnf
   rw [hpk.hq]
   obtain rfl | rfl | rfl | rfl:=q4 hpk.q3
   ·obtain rfl:l=[]:=hl.elim id fun h=>absurd rfl h.1
    refine ⟨fun h=>absurd h (by decide),fun _=>?_⟩
    conv=>whnf
    refine ⟨fun h=>absurd h (by decide),fun _=>?_⟩
    conv=>whnf
    refine ⟨fun h=>absurd h (by decide),fun _=>?_⟩
    conv=>whnf
    refine dropF_get (x:=ci .i64 ((s.fi:Nat):Int)) (tlC_get hF hG hDQ (i:=5) rfl) ?_
    conv=>whnf
    refine ⟨⟨⟨Int.natCast_nonneg _,g11⟩,by decide⟩,?_⟩
    conv=>whnf
    refine ⟨trivial,?_⟩
    conv=>whnf
    rw [hpk.cpy rfl] at hp1
    subst hp1
    rw [hpk.cpy rfl] at hp
    subst hp
    have hff:s.fi=s.fo:=by rw [← hp1l]; exact hQl.symm
    refine ⟨g16,?_⟩
    conv=>whnf
    rw [g17 hff]
    refine ⟨Q,(hsD _ [flB xs,flB y0,kB co,.dead,.dead,xB 0 [],sB i1,sB o2]:Vc.src w0 (rP (zO t) (F t) (G t) (dly Q) s (xc 0 co.length) (.sli 7 1 0 i1.length i1.length) (.sli 8 1 0 o.length o.length) (xa 0 6 0) (xb 0 6 0)::[flB xs,flB y0,kB co,.dead,.dead,xB 0 [],sB i1,sB o2]) (encI .i16) [] 1 (.sli 0 1 50 s.fi 48) Q),?_⟩
    conv=>whnf
    refine ⟨trivial,?_⟩
    conv=>whnf
    refine dropF_get (x:=ci .i64 ((s.fo:Nat):Int)) (tlC_get hF hG hDQ (i:=6) rfl) ?_
    conv=>whnf
    refine ⟨⟨Int.natCast_nonneg _,g12,Int.le_refl _⟩,?_⟩
    conv=>whnf
    refine ⟨fun _=>?_,fun h1 h2=>absurd h1 g13⟩
    rw [g15]
    conv=>whnf
    refine ⟨g18 hff,?_⟩
    conv=>whnf
    rw [g19 hff]
    refine ⟨R,⟨rfl,rfl,hrol,hRl,by rw [hRi]⟩,?_⟩
    conv=>whnf
    have g20:List.take s.fo (List.take (0+Int.toNat 0) o2++(Q++List.drop (0+Int.toNat 0+Q.length) o2))++(R++List.drop (s.fo+R.length) (List.take (0+Int.toNat 0) o2++(Q++List.drop (0+Int.toNat 0+Q.length) o2)))=wr o2 0 (Q++R):=wr_wr o2 Q R 0 s.fo (by rw [hQl,hff,Nat.zero_add]) g14
    rw [g20]
    exact ⟨⟨[],.inl rfl⟩,[0,1,2,3,4,5,6,7,8,6],⟨rfl,⟨rP_embK rfl rfl rfl rfl rfl rfl rfl rfl,rfl,rfl,rfl,rfl,rfl,rfl,rfl,lk 9 rfl rfl,lk 9 rfl rfl,lk 9 rfl rfl,rfl,rfl,rfl,rfl,rfl,rfl,trivial⟩,rfl⟩,rfl,rfl,rfl,rfl,rfl,rfl,trivial⟩
   ·obtain rfl:l=[]:=hl.elim id fun h=>absurd rfl h.2.1
    refine ⟨fun _=>?_,fun h=>absurd h (by decide)⟩
    conv=>whnf
    refine dropF_get (x:=ci .i64 ((s.fi:Nat):Int)) (tlC_get hF hG hDQ (i:=5) rfl) ?_
    conv=>whnf
    refine ⟨⟨⟨Int.natCast_nonneg _,g11⟩,by decide⟩,?_⟩
    conv=>whnf
    refine ⟨trivial,?_⟩
    conv=>whnf
    have hc1:=hpk.runX (.inl rfl) (l:=[]) (Ni:=i1.length) (No:=o.length) ht (.inl ⟨rfl,rfl⟩) hA1
    rw [← hp1] at hc1
    refine CallsA.liftE (H0:=[rP (zO t) (F t) (G t) (dly Q) s (xc 1 co.length) (.sli 2 1 0 i1.length i1.length) (.sli 1 1 0 o.length o.length) (xa 1 5 ([]).length) (xb 1 5 ([]).length),sB o2,sB i1,kB co,.dead,xB 1 []]) [0,8,7,3,4,6] rfl ⟨rP_embK rfl rfl rfl rfl rfl rfl rfl rfl,rfl,rfl,rfl,rfl,rfl,rfl,rfl,lk 9 rfl rfl,rfl,rfl,trivial⟩ rfl hc1 ?_
    rintro _ _ ⟨rfl,l1,hl1,rfl⟩
    refine ⟨.t [],[rP (zO p1.2) (F p1.2) (G p1.2) (dly Q) s (xc 1 co.length) (.sli 7 1 0 i1.length i1.length) (.sli 8 1 0 o.length o.length) (xa 1 6 l1.length) (xb 1 6 l1.length),flB xs,flB y0,kB co,.dead,.dead,xB 1 l1,sB i1,sB (wr o2 0 p1.1)],rfl,⟨rP_ren (xc_ren rfl _ _) rfl rfl (by rw [hl1]; exact xa_ren rfl _ _) (by rw [hl1]; exact xb_ren rfl _ _),rfl,rfl,rfl,rfl,rfl,rfl,rfl,rfl,trivial⟩,?_⟩
    conv=>whnf
    refine ⟨trivial,?_⟩
    conv=>whnf
    refine dropF_get (x:=ci .i64 ((s.fo:Nat):Int)) (tlC_get hF2 hG2 hDQ (i:=6) rfl) ?_
    conv=>whnf
    refine ⟨⟨Int.natCast_nonneg _,g12,Int.le_refl _⟩,?_⟩
    conv=>whnf
    refine ⟨fun _=>?_,fun h1 h2=>absurd h1 g13⟩
    rw [g15]
    conv=>whnf
    have hc2:=hpk.runX (.inl rfl) (l:=l1) (Ni:=i1.length) (No:=o.length) hI1 (.inl ⟨rfl,List.length_eq_zero_iff.1 hl1⟩) hA2
    rw [← hp] at hc2
    refine CallsA.liftE (H0:=[rP (zO p1.2) (F p1.2) (G p1.2) (dly Q) s (xc 1 co.length) (.sli 2 1 0 i1.length i1.length) (.sli 1 1 0 o.length o.length) (xa 1 5 l1.length) (xb 1 5 l1.length),sB (wr o2 0 p1.1),sB i1,kB co,.dead,xB 1 l1]) [0,8,7,3,4,6] rfl ⟨rP_embK rfl rfl rfl rfl rfl rfl rfl rfl,rfl,rfl,rfl,rfl,rfl,rfl,rfl,lk 9 rfl rfl,rfl,rfl,trivial⟩ rfl hc2 ?_
    rintro _ _ ⟨rfl,l2,hl2,rfl⟩
    refine ⟨.t [],[rP (zO p.2) (F p.2) (G p.2) (dly Q) s (xc 1 co.length) (.sli 7 1 0 i1.length i1.length) (.sli 8 1 0 o.length o.length) (xa 1 6 l2.length) (xb 1 6 l2.length),flB xs,flB y0,kB co,.dead,.dead,xB 1 l2,sB i1,sB (wr (wr o2 0 p1.1) s.fo p.1)],rfl,⟨rP_ren (xc_ren rfl _ _) rfl rfl (by rw [hl2]; exact xa_ren rfl _ _) (by rw [hl2]; exact xb_ren rfl _ _),rfl,rfl,rfl,rfl,rfl,rfl,rfl,rfl,trivial⟩,?_⟩
    conv=>whnf
    rw [wr_wr o2 p1.1 p.1 0 s.fo (by rw [hp1l,Nat.zero_add]) g14]
    exact ⟨⟨l2,(.inl (List.length_eq_zero_iff.1 (by rw [hl2,hl1]; rfl)))⟩,[0,1,2,3,4,5,6,7,8,6],⟨rfl,⟨rP_embK rfl rfl rfl rfl rfl rfl rfl rfl,rfl,rfl,rfl,rfl,rfl,rfl,rfl,lk 9 rfl rfl,lk 9 rfl rfl,lk 9 rfl rfl,rfl,rfl,rfl,rfl,rfl,rfl,trivial⟩,rfl⟩,rfl,rfl,rfl,rfl,rfl,rfl,trivial⟩
   ·refine ⟨fun h=>absurd h (by decide),fun _=>?_⟩
    conv=>whnf
    rcases hl with rfl | ⟨_,_,hlx⟩
    ·refine ⟨fun _=>?_,fun h=>absurd h (by decide)⟩
     conv=>whnf
     refine dropF_get (x:=ci .i64 ((s.fi:Nat):Int)) (tlC_get hF hG hDQ (i:=5) rfl) ?_
     conv=>whnf
     refine ⟨⟨⟨Int.natCast_nonneg _,g11⟩,by decide⟩,?_⟩
     conv=>whnf
     refine ⟨trivial,?_⟩
     conv=>whnf
     have hc1:=hpk.runN (.inl rfl) (Ni:=i1.length) (No:=o.length) ht hA1
     rw [← hp1] at hc1
     refine CallsA.liftE (H0:=[rP (zO t) (F t) (G t) (dly Q) s (xc 2 co.length) (.sli 2 1 0 i1.length i1.length) (.sli 1 1 0 o.length o.length) nilC nilC,sB o2,sB i1,kB co,.dead]) [0,8,7,3,4] rfl ⟨rP_embN rfl rfl rfl,rfl,rfl,rfl,rfl,rfl,rfl,rfl,lk 9 rfl rfl,trivial⟩ rfl hc1 ?_
     rintro _ _ ⟨rfl,l1,hl1,rfl⟩
     refine ⟨.t [],[rP (zO p1.2) (F p1.2) (G p1.2) (dly Q) s (xc 2 co.length) (.sli 7 1 0 i1.length i1.length) (.sli 8 1 0 o.length o.length) (xa 2 9 l1.length) (xb 2 9 l1.length),flB xs,flB y0,kB co,.dead,.dead,xB 2 [],sB i1,sB (wr o2 0 p1.1),xB 2 l1],rfl,⟨rP_ren (xc_ren rfl _ _) rfl rfl (by rw [hl1]; exact xa_ren rfl _ _) (by rw [hl1]; exact xb_ren rfl _ _),rfl,rfl,rfl,rfl,rfl,rfl,rfl,rfl,rfl,trivial⟩,?_⟩
     conv=>whnf
     refine ⟨trivial,?_⟩
     conv=>whnf
     refine dropF_get (x:=ci .i64 ((s.fo:Nat):Int)) (tlC_get hF2 hG2 hDQ (i:=6) rfl) ?_
     conv=>whnf
     refine ⟨⟨Int.natCast_nonneg _,g12,Int.le_refl _⟩,?_⟩
     conv=>whnf
     refine ⟨fun _=>?_,fun h1 h2=>absurd h1 g13⟩
     rw [g15]
     conv=>whnf
     have hc2:=hpk.runX (.inr (.inl rfl)) (l:=l1) (Ni:=i1.length) (No:=o.length) hI1 (.inr ⟨by decide,hl1⟩) hA2
     rw [← hp] at hc2
     refine CallsA.liftE (H0:=[rP (zO p1.2) (F p1.2) (G p1.2) (dly Q) s (xc 2 co.length) (.sli 2 1 0 i1.length i1.length) (.sli 1 1 0 o.length o.length) (xa 2 5 l1.length) (xb 2 5 l1.length),sB (wr o2 0 p1.1),sB i1,kB co,.dead,xB 2 l1]) [0,8,7,3,4,9] rfl ⟨rP_embK rfl rfl rfl rfl rfl rfl rfl rfl,rfl,rfl,rfl,rfl,rfl,rfl,rfl,lk 10 rfl rfl,rfl,rfl,trivial⟩ rfl hc2 ?_
     rintro _ _ ⟨rfl,l2,hl2,rfl⟩
     refine ⟨.t [],[rP (zO p.2) (F p.2) (G p.2) (dly Q) s (xc 2 co.length) (.sli 7 1 0 i1.length i1.length) (.sli 8 1 0 o.length o.length) (xa 2 9 l2.length) (xb 2 9 l2.length),flB xs,flB y0,kB co,.dead,.dead,xB 2 [],sB i1,sB (wr (wr o2 0 p1.1) s.fo p.1),xB 2 l2],rfl,⟨rP_ren (xc_ren rfl _ _) rfl rfl (by rw [hl2]; exact xa_ren rfl _ _) (by rw [hl2]; exact xb_ren rfl _ _),rfl,rfl,rfl,rfl,rfl,rfl,rfl,rfl,rfl,trivial⟩,?_⟩
     conv=>whnf
     rw [wr_wr o2 p1.1 p.1 0 s.fo (by rw [hp1l,Nat.zero_add]) g14]
     exact ⟨⟨l2,(.inr ⟨by decide,by decide,by rw [hl2,hl1]⟩)⟩,[0,1,2,3,4,5,6,7,8,9],⟨rfl,⟨rP_embK rfl rfl rfl rfl rfl rfl rfl rfl,rfl,rfl,rfl,rfl,rfl,rfl,rfl,lk 10 rfl rfl,lk 10 rfl rfl,lk 10 rfl rfl,rfl,rfl,rfl,rfl,rfl,rfl,trivial⟩,rfl⟩,rfl,rfl,rfl,rfl,rfl,rfl,trivial⟩
    refine ⟨fun _=>?_,fun h=>absurd h (by decide)⟩
    conv=>whnf
    refine dropF_get (x:=ci .i64 ((s.fi:Nat):Int)) (tlC_get hF hG hDQ (i:=5) rfl) ?_
    conv=>whnf
    refine ⟨⟨⟨Int.natCast_nonneg _,g11⟩,by decide⟩,?_⟩
    conv=>whnf
    refine ⟨trivial,?_⟩
    conv=>whnf
    have hc1:=hpk.runX (.inr (.inl rfl)) (l:=l) (Ni:=i1.length) (No:=o.length) ht (.inr ⟨by decide,hlx⟩) hA1
    rw [← hp1] at hc1
    refine CallsA.liftE (H0:=[rP (zO t) (F t) (G t) (dly Q) s (xc 2 co.length) (.sli 2 1 0 i1.length i1.length) (.sli 1 1 0 o.length o.length) (xa 2 5 (l).length) (xb 2 5 (l).length),sB o2,sB i1,kB co,.dead,xB 2 l]) [0,8,7,3,4,6] rfl ⟨rP_embK rfl rfl rfl rfl rfl rfl rfl rfl,rfl,rfl,rfl,rfl,rfl,rfl,rfl,lk 9 rfl rfl,rfl,rfl,trivial⟩ rfl hc1 ?_
    rintro _ _ ⟨rfl,l1,hl1,rfl⟩
    refine ⟨.t [],[rP (zO p1.2) (F p1.2) (G p1.2) (dly Q) s (xc 2 co.length) (.sli 7 1 0 i1.length i1.length) (.sli 8 1 0 o.length o.length) (xa 2 6 l1.length) (xb 2 6 l1.length),flB xs,flB y0,kB co,.dead,.dead,xB 2 l1,sB i1,sB (wr o2 0 p1.1)],rfl,⟨rP_ren (xc_ren rfl _ _) rfl rfl (by rw [hl1]; exact xa_ren rfl _ _) (by rw [hl1]; exact xb_ren rfl _ _),rfl,rfl,rfl,rfl,rfl,rfl,rfl,rfl,trivial⟩,?_⟩
    conv=>whnf
    refine ⟨trivial,?_⟩
    conv=>whnf
    refine dropF_get (x:=ci .i64 ((s.fo:Nat):Int)) (tlC_get hF2 hG2 hDQ (i:=6) rfl) ?_
    conv=>whnf
    refine ⟨⟨Int.natCast_nonneg _,g12,Int.le_refl _⟩,?_⟩
    conv=>whnf
    refine ⟨fun _=>?_,fun h1 h2=>absurd h1 g13⟩
    rw [g15]
    conv=>whnf
    have hc2:=hpk.runX (.inr (.inl rfl)) (l:=l1) (Ni:=i1.length) (No:=o.length) hI1 (.inr ⟨by decide,by rw [hl1,hlx]⟩) hA2
    rw [← hp] at hc2
    refine CallsA.liftE (H0:=[rP (zO p1.2) (F p1.2) (G p1.2) (dly Q) s (xc 2 co.length) (.sli 2 1 0 i1.length i1.length) (.sli 1 1 0 o.length o.length) (xa 2 5 l1.length) (xb 2 5 l1.length),sB (wr o2 0 p1.1),sB i1,kB co,.dead,xB 2 l1]) [0,8,7,3,4,6] rfl ⟨rP_embK rfl rfl rfl rfl rfl rfl rfl rfl,rfl,rfl,rfl,rfl,rfl,rfl,rfl,lk 9 rfl rfl,rfl,rfl,trivial⟩ rfl hc2 ?_
    rintro _ _ ⟨rfl,l2,hl2,rfl⟩
    refine ⟨.t [],[rP (zO p.2) (F p.2) (G p.2) (dly Q) s (xc 2 co.length) (.sli 7 1 0 i1.length i1.length) (.sli 8 1 0 o.length o.length) (xa 2 6 l2.length) (xb 2 6 l2.length),flB xs,flB y0,kB co,.dead,.dead,xB 2 l2,sB i1,sB (wr (wr o2 0 p1.1) s.fo p.1)],rfl,⟨rP_ren (xc_ren rfl _ _) rfl rfl (by rw [hl2]; exact xa_ren rfl _ _) (by rw [hl2]; exact xb_ren rfl _ _),rfl,rfl,rfl,rfl,rfl,rfl,rfl,rfl,trivial⟩,?_⟩
    conv=>whnf
    rw [wr_wr o2 p1.1 p.1 0 s.fo (by rw [hp1l,Nat.zero_add]) g14]
    exact ⟨⟨l2,(.inr ⟨by decide,by decide,by rw [hl2,hl1,hlx]⟩)⟩,[0,1,2,3,4,5,6,7,8,6],⟨rfl,⟨rP_embK rfl rfl rfl rfl rfl rfl rfl rfl,rfl,rfl,rfl,rfl,rfl,rfl,rfl,lk 9 rfl rfl,lk 9 rfl rfl,lk 9 rfl rfl,rfl,rfl,rfl,rfl,rfl,rfl,trivial⟩,rfl⟩,rfl,rfl,rfl,rfl,rfl,rfl,trivial⟩
   refine ⟨fun h=>absurd h (by decide),fun _=>?_⟩
   conv=>whnf
   refine ⟨fun h=>absurd h (by decide),fun _=>?_⟩
   conv=>whnf
   rcases hl with rfl | ⟨_,_,hlx⟩
   ·refine ⟨fun _=>?_,fun h=>absurd h (by decide)⟩
    conv=>whnf
    refine dropF_get (x:=ci .i64 ((s.fi:Nat):Int)) (tlC_get hF hG hDQ (i:=5) rfl) ?_
    conv=>whnf
    refine ⟨⟨⟨Int.natCast_nonneg _,g11⟩,by decide⟩,?_⟩
    conv=>whnf
    refine ⟨trivial,?_⟩
    conv=>whnf
    have hc1:=hpk.runN (.inr rfl) (Ni:=i1.length) (No:=o.length) ht hA1
    rw [← hp1] at hc1
    refine CallsA.liftE (H0:=[rP (zO t) (F t) (G t) (dly Q) s (xc 3 co.length) (.sli 2 1 0 i1.length i1.length) (.sli 1 1 0 o.length o.length) nilC nilC,sB o2,sB i1,kB co,.dead]) [0,8,7,3,4] rfl ⟨rP_embN rfl rfl rfl,rfl,rfl,rfl,rfl,rfl,rfl,rfl,lk 9 rfl rfl,trivial⟩ rfl hc1 ?_
    rintro _ _ ⟨rfl,l1,hl1,rfl⟩
    refine ⟨.t [],[rP (zO p1.2) (F p1.2) (G p1.2) (dly Q) s (xc 3 co.length) (.sli 7 1 0 i1.length i1.length) (.sli 8 1 0 o.length o.length) (xa 3 9 l1.length) (xb 3 9 l1.length),flB xs,flB y0,kB co,.dead,.dead,xB 3 [],sB i1,sB (wr o2 0 p1.1),xB 3 l1],rfl,⟨rP_ren (xc_ren rfl _ _) rfl rfl (by rw [hl1]; exact xa_ren rfl _ _) (by rw [hl1]; exact xb_ren rfl _ _),rfl,rfl,rfl,rfl,rfl,rfl,rfl,rfl,rfl,trivial⟩,?_⟩
    conv=>whnf
    refine ⟨trivial,?_⟩
    conv=>whnf
    refine dropF_get (x:=ci .i64 ((s.fo:Nat):Int)) (tlC_get hF2 hG2 hDQ (i:=6) rfl) ?_
    conv=>whnf
    refine ⟨⟨Int.natCast_nonneg _,g12,Int.le_refl _⟩,?_⟩
    conv=>whnf
    refine ⟨fun _=>?_,fun h1 h2=>absurd h1 g13⟩
    rw [g15]
    conv=>whnf
    have hc2:=hpk.runX (.inr (.inr rfl)) (l:=l1) (Ni:=i1.length) (No:=o.length) hI1 (.inr ⟨by decide,hl1⟩) hA2
    rw [← hp] at hc2
    refine CallsA.liftE (H0:=[rP (zO p1.2) (F p1.2) (G p1.2) (dly Q) s (xc 3 co.length) (.sli 2 1 0 i1.length i1.length) (.sli 1 1 0 o.length o.length) (xa 3 5 l1.length) (xb 3 5 l1.length),sB (wr o2 0 p1.1),sB i1,kB co,.dead,xB 3 l1]) [0,8,7,3,4,9] rfl ⟨rP_embK rfl rfl rfl rfl rfl rfl rfl rfl,rfl,rfl,rfl,rfl,rfl,rfl,rfl,lk 10 rfl rfl,rfl,rfl,trivial⟩ rfl hc2 ?_
    rintro _ _ ⟨rfl,l2,hl2,rfl⟩
    refine ⟨.t [],[rP (zO p.2) (F p.2) (G p.2) (dly Q) s (xc 3 co.length) (.sli 7 1 0 i1.length i1.length) (.sli 8 1 0 o.length o.length) (xa 3 9 l2.length) (xb 3 9 l2.length),flB xs,flB y0,kB co,.dead,.dead,xB 3 [],sB i1,sB (wr (wr o2 0 p1.1) s.fo p.1),xB 3 l2],rfl,⟨rP_ren (xc_ren rfl _ _) rfl rfl (by rw [hl2]; exact xa_ren rfl _ _) (by rw [hl2]; exact xb_ren rfl _ _),rfl,rfl,rfl,rfl,rfl,rfl,rfl,rfl,rfl,trivial⟩,?_⟩
    conv=>whnf
    rw [wr_wr o2 p1.1 p.1 0 s.fo (by rw [hp1l,Nat.zero_add]) g14]
    exact ⟨⟨l2,(.inr ⟨by decide,by decide,by rw [hl2,hl1]⟩)⟩,[0,1,2,3,4,5,6,7,8,9],⟨rfl,⟨rP_embK rfl rfl rfl rfl rfl rfl rfl rfl,rfl,rfl,rfl,rfl,rfl,rfl,rfl,lk 10 rfl rfl,lk 10 rfl rfl,lk 10 rfl rfl,rfl,rfl,rfl,rfl,rfl,rfl,trivial⟩,rfl⟩,rfl,rfl,rfl,rfl,rfl,rfl,trivial⟩
   refine ⟨fun _=>?_,fun h=>absurd h (by decide)⟩
   conv=>whnf
   refine dropF_get (x:=ci .i64 ((s.fi:Nat):Int)) (tlC_get hF hG hDQ (i:=5) rfl) ?_
   conv=>whnf
   refine ⟨⟨⟨Int.natCast_nonneg _,g11⟩,by decide⟩,?_⟩
   conv=>whnf
   refine ⟨trivial,?_⟩
   conv=>whnf
   have hc1:=hpk.runX (.inr (.inr rfl)) (l:=l) (Ni:=i1.length) (No:=o.length) ht (.inr ⟨by decide,hlx⟩) hA1
   rw [← hp1] at hc1
   refine CallsA.liftE (H0:=[rP (zO t) (F t) (G t) (dly Q) s (xc 3 co.length) (.sli 2 1 0 i1.length i1.length) (.sli 1 1 0 o.length o.length) (xa 3 5 (l).length) (xb 3 5 (l).length),sB o2,sB i1,kB co,.dead,xB 3 l]) [0,8,7,3,4,6] rfl ⟨rP_embK rfl rfl rfl rfl rfl rfl rfl rfl,rfl,rfl,rfl,rfl,rfl,rfl,rfl,lk 9 rfl rfl,rfl,rfl,trivial⟩ rfl hc1 ?_
   rintro _ _ ⟨rfl,l1,hl1,rfl⟩
   refine ⟨.t [],[rP (zO p1.2) (F p1.2) (G p1.2) (dly Q) s (xc 3 co.length) (.sli 7 1 0 i1.length i1.length) (.sli 8 1 0 o.length o.length) (xa 3 6 l1.length) (xb 3 6 l1.length),flB xs,flB y0,kB co,.dead,.dead,xB 3 l1,sB i1,sB (wr o2 0 p1.1)],rfl,⟨rP_ren (xc_ren rfl _ _) rfl rfl (by rw [hl1]; exact xa_ren rfl _ _) (by rw [hl1]; exact xb_ren rfl _ _),rfl,rfl,rfl,rfl,rfl,rfl,rfl,rfl,trivial⟩,?_⟩
   conv=>whnf
   refine ⟨trivial,?_⟩
   conv=>whnf
   refine dropF_get (x:=ci .i64 ((s.fo:Nat):Int)) (tlC_get hF2 hG2 hDQ (i:=6) rfl) ?_
   conv=>whnf
   refine ⟨⟨Int.natCast_nonneg _,g12,Int.le_refl _⟩,?_⟩
   conv=>whnf
   refine ⟨fun _=>?_,fun h1 h2=>absurd h1 g13⟩
   rw [g15]
   conv=>whnf
   have hc2:=hpk.runX (.inr (.inr rfl)) (l:=l1) (Ni:=i1.length) (No:=o.length) hI1 (.inr ⟨by decide,by rw [hl1,hlx]⟩) hA2
   rw [← hp] at hc2
   refine CallsA.liftE (H0:=[rP (zO p1.2) (F p1.2) (G p1.2) (dly Q) s (xc 3 co.length) (.sli 2 1 0 i1.length i1.length) (.sli 1 1 0 o.length o.length) (xa 3 5 l1.length) (xb 3 5 l1.length),sB (wr o2 0 p1.1),sB i1,kB co,.dead,xB 3 l1]) [0,8,7,3,4,6] rfl ⟨rP_embK rfl rfl rfl rfl rfl rfl rfl rfl,rfl,rfl,rfl,rfl,rfl,rfl,rfl,lk 9 rfl rfl,rfl,rfl,trivial⟩ rfl hc2 ?_
   rintro _ _ ⟨rfl,l2,hl2,rfl⟩
   refine ⟨.t [],[rP (zO p.2) (F p.2) (G p.2) (dly Q) s (xc 3 co.length) (.sli 7 1 0 i1.length i1.length) (.sli 8 1 0 o.length o.length) (xa 3 6 l2.length) (xb 3 6 l2.length),flB xs,flB y0,kB co,.dead,.dead,xB 3 l2,sB i1,sB (wr (wr o2 0 p1.1) s.fo p.1)],rfl,⟨rP_ren (xc_ren rfl _ _) rfl rfl (by rw [hl2]; exact xa_ren rfl _ _) (by rw [hl2]; exact xb_ren rfl _ _),rfl,rfl,rfl,rfl,rfl,rfl,rfl,rfl,trivial⟩,?_⟩
   conv=>whnf
   rw [wr_wr o2 p1.1 p.1 0 s.fo (by rw [hp1l,Nat.zero_add]) g14]
   exact ⟨⟨l2,(.inr ⟨by decide,by decide,by rw [hl2,hl1,hlx]⟩)⟩,[0,1,2,3,4,5,6,7,8,6],⟨rfl,⟨rP_embK rfl rfl rfl rfl rfl rfl rfl rfl,rfl,rfl,rfl,rfl,rfl,rfl,rfl,lk 9 rfl rfl,lk 9 rfl rfl,lk 9 rfl rfl,rfl,rfl,rfl,rfl,rfl,rfl,trivial⟩,rfl⟩,rfl,rfl,rfl,rfl,rfl,rfl,trivial⟩
  conv=>whnf
  refine dropF_get (x:=ci .i64 ((s.dl:Nat):Int)) (tlC_get hF3 hG3 hDQ (i:=7) rfl) ?_
  conv=>whnf
  rw [e6]
  obtain ⟨Y,hY⟩:∃ Y,Y=p1.1++p.1:=⟨_,rfl⟩
  rw [← hY]
  have hYl:Y.length=ol:=by rw [hY,List.length_append,hp1l,Nat.add_comm]; exact hpl
  have hYS:∀ y∈Y,S16 y:=by
   intro y hy
   rw [hY] at hy
   rcases List.mem_append.1 hy with h1 | h1
   ·rw [hp1] at h1
    exact hpk.out t Q ht hQx y h1
   rw [hp] at h1
   exact hpk.out p1.2 R hI1 hRx y h1
  have b1:min s.dl ((48:Nat):Int).toNat=s.dl:=Nat.min_eq_left (Int.ofNat_le.1 g3.1)
  have b2:(xs.drop (xs.length - s.dl)).length=s.dl:=by rw [List.length_drop]; exact Nat.sub_sub_self a4
  have b3:0+(xs.drop (xs.length - s.dl)).length≤48:=by rw [b2,Nat.zero_add]; exact Int.ofNat_le.1 g3.1
  have hDy:(dly Q).take 0++(xs.drop (xs.length - s.dl)++(dly Q).drop (0+(xs.drop (xs.length - s.dl)).length))=dly (xs.drop (xs.length - s.dl)++Q.drop s.dl):=by
   have b4:s.dl≤Q.length:=by rw [hQl]; exact Nat.le_of_lt hdl
   unfold dly
   rw [b2,List.take_zero,List.nil_append,Nat.zero_add,List.drop_append_of_le_length b4,List.length_append,b2,List.length_drop,Nat.add_sub_cancel' b4,List.append_assoc]
  obtain ⟨qo,qc,hqo,hqc,hv1,hv2⟩:=hvEx2 (n:=xs.length) (iL:=i1.length) a4 a5
  have hXi:=inCut hi1 hqo a4
  have b5:i1.length≤Mi:=by rw [hi1l]; exact hi2
  have b8:(wr o2 0 Y).length=o.length:=by rw [wr_length _ _ _ (by rw [hYl,ho2l,Nat.zero_add]; exact Nat.le_trans (Nat.le_add_right _ _) ho),ho2l]
  have b6:(wr o2 0 Y).length≤Mo:=by rw [b8]; exact ho2
  have b7:0<i1.length:=Nat.lt_of_lt_of_le hx0 a5
  have b9:0<o.length:=Nat.lt_of_lt_of_le hol0 (Nat.le_trans (Nat.le_add_right _ _) ho)
  refine ⟨⟨Int.natCast_nonneg _,g2,Int.le_refl _⟩,fun hL2 => ?_,fun hE2 hN2 => ?_⟩
  all_goals
   first
   | rw [hv1 (Int.ofNat_lt.1 hL2)]
   | rw [hv2 (Int.ofNat.inj hE2) (fun h=>hN2 (Int.ofNat_lt.2 h))]
   clear hv1 hv2
   conv=>whnf
   refine ⟨⟨⟨by decide,by decide⟩,by decide⟩,?_⟩
   conv=>whnf
   refine ⟨⟨dropF_get (x:=ci .i64 ((s.dl:Nat):Int)) (tlC_get hF3 hG3 hDQ (i:=7) rfl) ⟨rfl,rfl⟩,trivial⟩,?_⟩
   conv=>whnf
   refine ⟨Nat.le_trans (show (49+1+48)*1≤111 by decide) (Nat.le_of_eq (cells_len hF3 hG3 hDQ).symm),?_⟩
   conv=>whnf
   rw [b1]
   refine ⟨Int,encI .i16,[],xs.drop (xs.length - s.dl),fun _=>rfl,⟨rfl,rfl,hqc,b2,by rw [hXi]⟩,?_⟩
   conv=>whnf
   rw [put_D hF3 hG3 hDQ (k:=0) b3 rfl ?hn2 ?hm2]
   case hn2=>rfl
   case hm2=>exact hm_eq0 _
   rw [hDy]
   refine ⟨trivial,?_⟩
   conv=>whnf
   refine Or.inl ?_
   conv=>whnf
   refine ⟨{k:Nat // k≤ol},fun ⟨k,_⟩=>⟨[(2,.o (.c (.vec 2 ol))),(10,.o (.c (.sli 8 1 0 (ol+s.fo) o.length))),(256,.o (.c (.val (.int .i64 (ol:Nat))))),(257,.o (.c (.val (.int .i64 (k:Nat)))))],[rP (zO p.2) (F p.2) (G p.2) (dly (xs.drop (xs.length - s.dl)++Q.drop s.dl)) s (xc q co.length) (.sli 7 1 0 i1.length i1.length) (.sli 8 1 0 o.length o.length) (xa q 9 l'.length) (xb q 9 l'.length),flB xs,flB (wr y0 0 (Y.take k)),kB co,.dead,.dead,.dead,sB i1,sB (wr o2 0 Y),xB q l']⟩,fun k=>ol - k.1,⟨⟨0,Nat.zero_le _⟩,?_⟩,fun ⟨k,hk⟩ => ?_⟩
   ·exact ⟨[0,1,2,3,4,5,6,7,8,9],⟨rfl,⟨rP_embK rfl rfl rfl rfl rfl rfl rfl rfl,rfl,rfl,rfl,rfl,rfl,rfl,rfl,lk 10 rfl rfl,lk 10 rfl rfl,lk 10 rfl rfl,rfl,rfl,rfl,rfl,rfl,rfl,trivial⟩,rfl⟩,rfl,rfl,rfl,rfl,trivial⟩
   conv=>whnf
   refine ⟨fun h3 => ?_,fun h3 => ?_⟩
   ·have h3:k<ol:=lt_t h3
    obtain ⟨x,hxk⟩:∃ x,Y[k]? = some x:=⟨_,List.getElem?_eq_getElem (by rw [hYl]; exact h3)⟩
    have hxS:=hYS x (List.mem_of_getElem? hxk)
    have htk:(Y.take k).length=k:=by rw [List.length_take,hYl]; exact Nat.min_eq_left hk
    conv=>whnf
    refine ⟨⟨Int.natCast_nonneg _,Int.ofNat_lt.2 (Nat.lt_of_lt_of_le h3 (Nat.le_add_right _ _))⟩,?_⟩
    conv=>whnf
    refine ⟨x,wr0_get o2 hxk,?_⟩
    conv=>whnf
    refine ⟨_,g_i2f .i16 x,?_⟩
    conv=>whnf
    refine ⟨rfl,_,g_div hxS,?_⟩
    conv=>whnf
    refine ⟨⟨Int.natCast_nonneg _,Int.ofNat_lt.2 h3⟩,?_⟩
    conv=>whnf
    obtain ⟨g0,hg0⟩:=wr_get y0 0 (Y.take k) k (by rw [htk,hy0,Nat.zero_add]; exact hk) (by rw [hy0]; exact h3)
    refine ⟨g0,x,hg0,rfl,?_⟩
    rw [show ((k:Nat):Int).toNat=k from rfl,wr_set y0 0 (Y.take k) k x (by rw [htk,Nat.zero_add]) (by rw [hy0]; exact h3)]
    conv=>whnf
    rw [ninc (Nat.le_trans hk (Nat.le_trans hKo (by decide))),show Y.take k++[x]=Y.take (k+1) by rw [List.take_add_one,hxk]; rfl]
    refine ⟨⟨k+1,h3⟩,?_,Nat.sub_lt_sub_left h3 (Nat.lt_succ_self k)⟩
    exact ⟨[0,1,2,3,4,5,6,7,8,9],⟨rfl,⟨rP_embK rfl rfl rfl rfl rfl rfl rfl rfl,rfl,rfl,rfl,rfl,rfl,rfl,rfl,lk 10 rfl rfl,lk 10 rfl rfl,lk 10 rfl rfl,rfl,rfl,rfl,rfl,rfl,rfl,trivial⟩,rfl⟩,rfl,rfl,rfl,rfl,trivial⟩
   have h3:ol≤k:=lt_f h3
   conv=>whnf
   refine Or.inl ⟨rfl,i1,wr o2 0 Y,l',b5,b6,hl',?_⟩
   rw [slV_pos b7,b8,slV_pos b9,List.take_of_length_le (by rw [hYl]; exact h3),wr_full (by rw [hy0,hYl])]
def rwL:List Nat:=[8,12,16]
def clL:List Nat:=[8,12,16,24,48]
def nC (l:List Nat):List CV:=l.map fun n=>ci .i64 ((n:Nat):Int)
def dlF (fr to:Nat):Nat→Int
 | 0 => -1
 | n+1=>if rwL.getD (n / 5) 0=fr∧clL.getD (n % 5) 0=to then ((dyL.getD n 0:Nat):Int) else dlF fr to n
def rC (a b:Nat) (dl:Int) (h f:CV) (R:Nat):Blk := .cells 38 [ci .i64 a,ci .i64 b,ci .i64 dl,h,ci .i64 ((0:Nat):Int),ci .i64 ((0:Nat):Int),ci .i64 ((0:Nat):Int),ci .i64 ((0:Nat):Int),ci .i64 ((0:Nat):Int),ci .i64 ((0:Nat):Int),f,ci .i64 ((R:Nat):Int)]
def nwH (fr to:Nat) (dl:Int) (h f:CV) (R:Nat):List Blk:=[.cells 3 (nC rwL),.cells 3 (nC clL),.cells 69 (nC dyL),rC fr to dl h f R]
def nwO (fr to i:Nat):S :=
 ⟨[(0,.o (.c (.val (.int .i64 fr)))),(1,.o (.c (.val (.int .i64 to)))),(7,.o (.c (.sli 1 1 0 5 5))),(8,.o (.c (.ptr 2 0))),(9,.o (.c (.ptr 3 0))),(26,.o (.c (.sli 0 1 0 3 3))),(27,.o (.c (.val (.int .i64 ((3:Nat):Int))))),(28,.o (.c (.val (.int .i64 (i:Nat)))))],nwH fr to (dlF fr to (5*i)) nilC nilC 0⟩
def nwI (fr to i k:Nat):S :=
 ⟨[(0,.o (.c (.val (.int .i64 fr)))),(1,.o (.c (.val (.int .i64 to)))),(7,.o (.c (.sli 1 1 0 5 5))),(8,.o (.c (.ptr 2 0))),(9,.o (.c (.ptr 3 0))),(10,.o (.c (.val (.int .i64 i)))),(11,.o (.c (.val (.int .i64 ((rwL.getD i 0:Nat):Int))))),(26,.o (.c (.sli 0 1 0 3 3))),(27,.o (.c (.val (.int .i64 ((3:Nat):Int))))),(28,.o (.c (.val (.int .i64 (i:Nat))))),
  (33,.o (.c (.sli 1 1 0 5 5))),(34,.o (.c (.val (.int .i64 ((5:Nat):Int))))),(35,.o (.c (.val (.int .i64 (k:Nat)))))],nwH fr to (dlF fr to (5*i+k)) nilC nilC 0⟩
def ordN (fr to:Nat):Nat:=if to=fr then 0 else if to=2*fr then 0 else if fr<to then 8 else if 4*to=3*fr then 18 else if 3*to=2*fr then 18 else 24
theorem nC_get {l:List Nat} {i:Nat} (h:i<l.length):(nC l)[(0+i)*1+0]? = some (ci .i64 ((l.getD i 0:Nat):Int)):=by
 rw [show (0+i)*1+0=i by omega]
 unfold nC
 rw [List.getElem?_map,List.getElem?_eq_getElem h,List.getD_eq_getElem?_getD,List.getElem?_eq_getElem h]
 rfl
theorem nC_get2 {l:List Nat} {i:Nat} (h:i<l.length):(nC l)[i]? = some (ci .i64 ((l.getD i 0:Nat):Int)):=by
 unfold nC
 rw [List.getElem?_map,List.getElem?_eq_getElem h,List.getD_eq_getElem?_getD,List.getElem?_eq_getElem h]
 rfl
theorem dlF_no {fr to i k:Nat} (_:i<3) (hk:k<5) (h:¬ (rwL.getD i 0=fr∧clL.getD k 0=to)):dlF fr to (5*i+(k+1))=dlF fr to (5*i+k):=by
 rw [show 5*i+(k+1)=(5*i+k)+1 by omega]
 show (if _∧_ then _ else _)=_
 rw [show (5*i+k) / 5=i by omega,show (5*i+k) % 5=k by omega,if_neg h]
theorem dlF_yes {fr to i k:Nat} (_:i<3) (hk:k<5) (h:rwL.getD i 0=fr∧clL.getD k 0=to):dlF fr to (5*i+(k+1))=((dyL.getD (5*i+k) 0:Nat):Int):=by
 rw [show 5*i+(k+1)=(5*i+k)+1 by omega]
 show (if _∧_ then _ else _)=_
 rw [show (5*i+k) / 5=i by omega,show (5*i+k) % 5=k by omega,if_pos h]
def nwS (fr to:Nat) (dl:Int) (up ord:Nat):S :=
 ⟨[(0,.o (.c (.val (.int .i64 fr)))),(1,.o (.c (.val (.int .i64 to)))),(9,.o (.c (.ptr 3 0))),(14,.o (.c (.val (.int .i64 (up:Nat))))),(15,.o (.c (.val (.int .i64 (ord:Nat)))))],nwH fr to dl (.vec 4 fr) nilC 0++[sB (List.replicate fr 0)]⟩
def nwT (fr to dl r U:Nat):S :=
 ⟨[(0,.o (.c (.val (.int .i64 fr)))),(1,.o (.c (.val (.int .i64 to)))),(9,.o (.c (.ptr 3 0))),(14,.o (.c (.val (.int .i64 (U:Nat)))))],nwH fr to dl (.vec 4 fr) (.vec 5 (ordN fr to)) r++[sB (List.replicate fr 0),nB (List.replicate (ordN fr to) 0)]⟩
theorem ordN_le (fr to:Nat):ordN fr to≤24:=by unfold ordN; (repeat' split) <;> omega
theorem sNewW (w0:World) {fr to dl R:Nat} (hfr:fr≤100) (hto:to≤100) (hto0:0<to) (hdl:dlF fr to 15=(dl:Int)) (hRb:R≤10000000) (hR:RatOk fr to R) :
 CallsA Tryz.prog w0 10 [.c (.val (.int .i64 fr)),.c (.val (.int .i64 to))] []
  fun r H=>r = .t [.c (.ptr 0 0),.c (.val (.bool true))]∧H=[rB Z6.zero ⟨fr,to,dl,R,fr,ordN fr to⟩,sB (List.replicate fr 0),nB (List.replicate (ordN fr to) 0)]:=by
 have e2:IntKind.i64.wrap (((2:Nat):Int)*(fr:Int))=((2*fr:Nat):Int):=by rw [wi64 (by omega)]; omega
 have e3:IntKind.i64.wrap (((4:Nat):Int)*(to:Int))=((4*to:Nat):Int):=by rw [wi64 (by omega)]; omega
 have e4:IntKind.i64.wrap (((3:Nat):Int)*(fr:Int))=((3*fr:Nat):Int):=by rw [wi64 (by omega)]; omega
 have e5:IntKind.i64.wrap (((3:Nat):Int)*(to:Int))=((3*to:Nat):Int):=by rw [wi64 (by omega)]; omega
 refine callsA_of_ev c10_ ?_
 conv=>whnf
 refine Or.inl ?_
 conv=>whnf
 refine Or.inl ?_
 conv=>whnf
 refine ⟨{i:Nat // i≤3},fun ⟨i,_⟩=>nwO fr to i,fun i=>3 - i.1,⟨⟨0,Nat.zero_le _⟩,?_⟩,fun ⟨i,hi⟩ => ?_⟩
 ·exact ⟨[0,1,2,3],⟨rfl,⟨rfl,rfl,rfl,rfl,rfl,rfl,rfl,rfl,trivial⟩,rfl⟩,rfl,rfl,rfl,rfl,rfl,rfl,rfl,rfl,trivial⟩
 conv=>whnf
 refine ⟨fun h3 => ?_,fun h3 => ?_⟩
 ·have h3:i<3:=lt_t h3
  conv=>whnf
  refine Or.inl ?_
  conv=>whnf
  refine ⟨⟨Int.natCast_nonneg _,Int.ofNat_lt.2 h3⟩,?_⟩
  conv=>whnf
  refine dropF_get (x:=ci .i64 ((rwL.getD i 0:Nat):Int)) (nC_get (l:=rwL) h3) ?_
  conv=>whnf
  refine ⟨{k:Nat // k≤5},fun ⟨k,_⟩=>nwI fr to i k,fun k=>5 - k.1,⟨⟨0,Nat.zero_le _⟩,?_⟩,fun ⟨k,hk⟩ => ?_⟩
  ·exact ⟨[0,1,2,3],⟨rfl,⟨rfl,rfl,rfl,rfl,rfl,rfl,rfl,rfl,trivial⟩,rfl⟩,rfl,rfl,rfl,rfl,rfl,rfl,rfl,rfl,rfl,rfl,rfl,rfl,rfl,trivial⟩
  conv=>whnf
  refine ⟨fun h4 => ?_,fun h4 => ?_⟩
  ·have h4:k<5:=lt_t h4
   conv=>whnf
   refine Or.inl ?_
   conv=>whnf
   refine ⟨⟨Int.natCast_nonneg _,Int.ofNat_lt.2 h4⟩,?_⟩
   conv=>whnf
   refine dropF_get (x:=ci .i64 ((clL.getD k 0:Nat):Int)) (nC_get (l:=clL) h4) ?_
   conv=>whnf
   refine ⟨fun h5 => ?_,fun h5 => ?_⟩
   ·have h5:=beq_t h5
    conv=>whnf
    refine ⟨fun h6 => ?_,fun h6 => ?_⟩
    ·have h6:=beq_t h6
     conv=>whnf
     refine ⟨⟨Int.natCast_nonneg _,Int.ofNat_lt.2 h3⟩,?_⟩
     conv=>whnf
     refine ⟨⟨Int.natCast_nonneg _,Int.ofNat_lt.2 h4⟩,?_⟩
     conv=>whnf
     refine dropF_get (x:=ci .i64 ((dyL.getD (5*i+k) 0:Nat):Int)) (show (nC dyL)[i*5+(0+k)]? = _ from by rw [show i*5+(0+k)=5*i+k by omega]; exact nC_get2 (by show 5*i+k<15; omega)) ?_
     conv=>whnf
     refine ⟨⟨k+1,h4⟩,?_,Nat.sub_lt_sub_left h4 (Nat.lt_succ_self k)⟩
     have e:=dlF_yes h3 h4 ⟨h5,h6⟩
     show EmbS _ (nwI fr to i (k+1)) _
     unfold nwI
     rw [e,ninc (by omega)]
     exact ⟨[0,1,2,3],⟨rfl,⟨rfl,rfl,rfl,rfl,rfl,rfl,rfl,rfl,trivial⟩,rfl⟩,rfl,rfl,rfl,rfl,rfl,rfl,rfl,rfl,rfl,rfl,rfl,rfl,rfl,trivial⟩
    have h6:=beq_f h6
    conv=>whnf
    refine ⟨⟨k+1,h4⟩,?_,Nat.sub_lt_sub_left h4 (Nat.lt_succ_self k)⟩
    have e:dlF fr to (5*i+(k+1))=dlF fr to (5*i+k):=dlF_no h3 h4 (fun h=>h6 h.2)
    show EmbS _ (nwI fr to i (k+1)) _
    unfold nwI
    rw [e,ninc (by omega)]
    exact ⟨[0,1,2,3],⟨rfl,⟨rfl,rfl,rfl,rfl,rfl,rfl,rfl,rfl,trivial⟩,rfl⟩,rfl,rfl,rfl,rfl,rfl,rfl,rfl,rfl,rfl,rfl,rfl,rfl,rfl,trivial⟩
   have h5:=beq_f h5
   conv=>whnf
   refine ⟨⟨k+1,h4⟩,?_,Nat.sub_lt_sub_left h4 (Nat.lt_succ_self k)⟩
   have e:dlF fr to (5*i+(k+1))=dlF fr to (5*i+k):=dlF_no h3 h4 (fun h=>h5 h.1)
   show EmbS _ (nwI fr to i (k+1)) _
   unfold nwI
   rw [e,ninc (by omega)]
   exact ⟨[0,1,2,3],⟨rfl,⟨rfl,rfl,rfl,rfl,rfl,rfl,rfl,rfl,trivial⟩,rfl⟩,rfl,rfl,rfl,rfl,rfl,rfl,rfl,rfl,rfl,rfl,rfl,rfl,rfl,trivial⟩
  have h4:5≤k:=lt_f h4
  obtain rfl:k=5:=by omega
  conv=>whnf
  refine ⟨⟨i+1,h3⟩,?_,Nat.sub_lt_sub_left h3 (Nat.lt_succ_self i)⟩
  show EmbS _ (nwO fr to (i+1)) _
  unfold nwO
  rw [show 5*(i+1)=5*i+5 by omega,ninc (by omega)]
  exact ⟨[0,1,2,3],⟨rfl,⟨rfl,rfl,rfl,rfl,rfl,rfl,rfl,rfl,trivial⟩,rfl⟩,rfl,rfl,rfl,rfl,rfl,rfl,rfl,rfl,trivial⟩
 have h3:3≤i:=lt_f h3
 obtain rfl:i=3:=by omega
 conv=>whnf
 refine Or.inl ?_
 conv=>whnf
 have h4:¬ dlF fr to (5*3)<((0:Nat):Int):=by rw [show 5*3=15 from rfl,hdl]; omega
 refine ⟨fun h5 => ?_,fun h5 => ?_⟩
 ·exact absurd (of_decide_eq_true h5) h4
 conv=>whnf
 refine ⟨⟨Int.natCast_nonneg _,Int.le_refl _,by omega,by omega,by decide⟩,?_⟩
 conv=>whnf
 refine ⟨Int,encI .i16,[],0,fun _=>rfl,rfl,Or.inl ?_⟩
 conv=>whnf
 refine Or.inr ⟨Unit,fun _=>nwS fr to dl (upN fr to) (ordN fr to),?_,fun _=>?_⟩
 ·conv=>whnf
  refine ⟨fun h6 => ?_,fun h6 => ?_⟩
  ·have h6:=beq_t h6
   conv=>whnf
   refine ⟨(),?_⟩
   unfold nwS upN ordN
   rw [if_pos h6,if_pos h6,← hdl]
   exact ⟨[0,1,2,3,4],⟨rfl,⟨rfl,rfl,rfl,rfl,rfl,rfl,rfl,rfl,rfl,rfl,trivial⟩,rfl⟩,rfl,rfl,rfl,rfl,rfl,trivial⟩
  have h6:=beq_f h6
  conv=>whnf
  rw [e2]
  refine ⟨fun h7 => ?_,fun h7 => ?_⟩
  ·have h7:=beq_t h7
   conv=>whnf
   refine ⟨(),?_⟩
   unfold nwS upN ordN
   rw [if_neg h6,if_pos h7,if_neg h6,if_pos h7,← hdl]
   exact ⟨[0,1,2,3,4],⟨rfl,⟨rfl,rfl,rfl,rfl,rfl,rfl,rfl,rfl,rfl,rfl,trivial⟩,rfl⟩,rfl,rfl,rfl,rfl,rfl,trivial⟩
  have h7:=beq_f h7
  conv=>whnf
  refine ⟨fun h8 => ?_,fun h8 => ?_⟩
  ·have h8:=gt_t h8
   conv=>whnf
   refine ⟨(),?_⟩
   unfold nwS upN ordN
   rw [if_neg h6,if_neg h7,if_pos h8,if_neg h6,if_neg h7,if_pos h8,← hdl]
   exact ⟨[0,1,2,3,4],⟨rfl,⟨rfl,rfl,rfl,rfl,rfl,rfl,rfl,rfl,rfl,rfl,trivial⟩,rfl⟩,rfl,rfl,rfl,rfl,rfl,trivial⟩
  have h8:=gt_f h8
  conv=>whnf
  rw [e3,e4]
  refine ⟨fun h9 => ?_,fun h9 => ?_⟩
  ·have h9:=beq_t h9
   conv=>whnf
   refine ⟨(),?_⟩
   unfold nwS upN ordN
   rw [if_neg h6,if_neg h7,if_neg (show ¬ fr<to by omega),if_neg h6,if_neg h7,if_neg (show ¬ fr<to by omega),if_pos h9,← hdl]
   exact ⟨[0,1,2,3,4],⟨rfl,⟨rfl,rfl,rfl,rfl,rfl,rfl,rfl,rfl,rfl,rfl,trivial⟩,rfl⟩,rfl,rfl,rfl,rfl,rfl,trivial⟩
  have h9:=beq_f h9
  conv=>whnf
  rw [e5,e2]
  refine ⟨fun h10 => ?_,fun h10 => ?_⟩
  ·have h10:=beq_t h10
   conv=>whnf
   refine ⟨(),?_⟩
   unfold nwS upN ordN
   rw [if_neg h6,if_neg h7,if_neg (show ¬ fr<to by omega),if_neg h6,if_neg h7,if_neg (show ¬ fr<to by omega),if_neg h9,if_pos h10,← hdl]
   exact ⟨[0,1,2,3,4],⟨rfl,⟨rfl,rfl,rfl,rfl,rfl,rfl,rfl,rfl,rfl,rfl,trivial⟩,rfl⟩,rfl,rfl,rfl,rfl,rfl,trivial⟩
  have h10:=beq_f h10
  conv=>whnf
  refine ⟨(),?_⟩
  unfold nwS upN ordN
  rw [if_neg h6,if_neg h7,if_neg (show ¬ fr<to by omega),if_neg h6,if_neg h7,if_neg (show ¬ fr<to by omega),if_neg h9,if_neg h10,← hdl]
  exact ⟨[0,1,2,3,4],⟨rfl,⟨rfl,rfl,rfl,rfl,rfl,rfl,rfl,rfl,rfl,rfl,trivial⟩,rfl⟩,rfl,rfl,rfl,rfl,rfl,trivial⟩
 conv=>whnf
 refine ⟨⟨Int.natCast_nonneg _,Int.le_refl _,by have:=ordN_le fr to; omega,by have:=ordN_le fr to; omega,by decide⟩,?_⟩
 conv=>whnf
 refine ⟨Int,encI .i64,[],0,fun _=>rfl,rfl,Or.inl ?_⟩
 conv=>whnf
 obtain ⟨U,hU⟩:∃ U,U=upN fr to:=⟨_,rfl⟩
 have hU1:U≤1:=hU ▸ upN_le fr to
 have hUU:U=0∨U=1:=by omega
 have e6:IntKind.i64.wrap (((14:Nat):Int)+(U:Int))=((14+U:Nat):Int):=by rw [wi64 (by omega)]; omega
 have e7:IntKind.i64.wrap ((fr:Int)*2 ^ min ((14+U:Nat):Int).toNat IntKind.i64.bits)=((fr*2 ^ (14+U):Nat):Int):=by
  rw [nshlvi _ _ (by omega),wi64 (by rcases hUU with rfl | rfl <;> omega)]
 obtain ⟨q,hq⟩:∃ q,q=fr*2 ^ (14+U) / to:=⟨_,rfl⟩
 have hq1:q≤3276800:=by
  rw [hq]
  exact Nat.le_trans (Nat.div_le_self _ _) (by rcases hUU with rfl | rfl <;> omega)
 have e8:IntKind.i64.wrap (((fr*2 ^ (14+U):Nat):Int).tdiv (to:Int))=(q:Int):=by rw [ntdiv,← hq,wi64 (by omega)]
 have e9:IntKind.i64.wrap ((q:Int)*2 ^ min 2 IntKind.i64.bits)=((q*4:Nat):Int):=by
  rw [show min 2 IntKind.i64.bits=2 from rfl,show (2:Int) ^ 2=4 from rfl,wi64 (by omega)]
  omega
 have hr0:q*4=rat0 fr to:=by unfold rat0; rw [hq,hU]
 rw [← hU,e6]
 refine ⟨Int.natCast_nonneg _,?_⟩
 conv=>whnf
 rw [e7]
 refine ⟨(by omega),?_⟩
 conv=>whnf
 rw [e8,e9,hr0]
 refine Or.inl ?_
 conv=>whnf
 refine ⟨{r:Nat // rat0 fr to≤r∧r≤R},fun ⟨r,_⟩=>nwT fr to dl r U,fun r=>R - r.1,⟨⟨rat0 fr to,Nat.le_refl _,hR.lo⟩,?_⟩,fun ⟨r,hr,hr1⟩ => ?_⟩
 ·exact ⟨[0,1,2,3,4,5],⟨rfl,⟨rfl,rfl,rfl,rfl,rfl,rfl,rfl,rfl,rfl,rfl,rfl,rfl,trivial⟩,rfl⟩,rfl,rfl,rfl,rfl,trivial⟩
 have hrt:r*to≤10000000*100:=Nat.mul_le_mul (by omega) hto
 have e10:IntKind.i64.wrap ((r:Int)*(to:Int))=((r*to:Nat):Int):=by rw [nmul,wi64 (by omega)]
 have e11:IntKind.i64.wrap ((fr:Int)*2 ^ min ((U:Nat):Int).toNat IntKind.i64.bits)=((fr*2 ^ U:Nat):Int):=by
  rw [nshlvi _ _ (by omega),wi64 (by rcases hUU with rfl | rfl <;> omega)]
 have e12:((r*to:Nat):Int).fdiv (2 ^ min 16 IntKind.i64.bits)=((r*to / 65536:Nat):Int):=by rw [show min 16 IntKind.i64.bits=16 from rfl,nfdiv]
 conv=>whnf
 rw [e10,e12]
 refine ⟨Int.natCast_nonneg _,?_⟩
 conv=>whnf
 rw [e11]
 refine ⟨fun h11 => ?_,fun h11 => ?_⟩
 ·have h11:r*to / 65536<fr*2 ^ U:=lt_t h11
  have hlt:r<R:=by
   rcases Nat.lt_or_ge r R with h | h
   ·exact h
   have:=hR.hi
   rw [← hU] at this
   obtain rfl:r=R:=by omega
   omega
  conv=>whnf
  rw [ninc (by omega)]
  exact ⟨⟨r+1,by omega,hlt⟩,⟨[0,1,2,3,4,5],⟨rfl,⟨rfl,rfl,rfl,rfl,rfl,rfl,rfl,rfl,rfl,rfl,rfl,rfl,trivial⟩,rfl⟩,rfl,rfl,rfl,rfl,trivial⟩,Nat.sub_lt_sub_left hlt (Nat.lt_succ_self r)⟩
 have h11:fr*2 ^ U≤r*to / 65536:=lt_f h11
 have hre:r=R:=by
  rcases Nat.lt_or_ge r R with h | h
  ·have:=hR.no r hr h
   rw [← hU] at this
   omega
  omega
 subst hre
 conv=>whnf
 exact Or.inr ⟨[3,4,5],.t [.c (.ptr 0 0),.c (.val (.bool true))],[rB Z6.zero ⟨fr,to,dl,r,fr,ordN fr to⟩,sB (List.replicate fr 0),nB (List.replicate (ordN fr to) 0)],⟨rfl,⟨rfl,rfl,rfl,rfl,rfl,rfl,trivial⟩,rfl⟩,rfl,rfl,rfl⟩
def smpAt (w0:World) (v:Value) (ys:List Int):Prop:=(v = .slice none 0 0∧ys=[]) ∨ ∃ a c,v = .slice (some a) ys.length c∧ys.length≤c∧c≤9223372036854775807 ∧ ∀ (i:Nat) x,ys[i]? = some x→S16 x∧w0.cell? (a.add (i*1))=some (.int .i16 x)
def smpsAt (w0:World) (v:Value) (ys:List (Value × List Int)):Prop:=(v = .slice none 0 0∧ys=[]) ∨ ∃ a c,v = .slice (some a) ys.length c∧ys.length≤c∧c≤9223372036854775807 ∧ ∀ (i:Nat) x,ys[i]? = some x→w0.cell? (a.add (i*1))=some x.1∧smpAt w0 x.1 x.2
structure srowsAt (w0:World) (A:Option Addr) (ys:List (Value × List Int)):Prop where
 len:ys.length≤9223372036854775807
 at_:∀ (i:Nat) x,ys[i]? = some x → ∃ a,A=some a∧w0.cell? (a.add (i*1))=some x.1∧smpAt w0 x.1 x.2
theorem smpsAt.rows {w0:World} {v:Value} {ys:List (Value × List Int)} (h:smpsAt w0 v ys):∃ A c,v = .slice A ys.length c∧srowsAt w0 A ys:=by
 rcases h with ⟨rfl,rfl⟩ | ⟨a,c,rfl,h1,h2,h3⟩
 ·exact ⟨none,0,rfl,Nat.zero_le _,fun i x hx=>by simp at hx⟩
 exact ⟨some a,c,rfl,by omega,fun i x hx=>⟨a,rfl,h3 i x hx⟩⟩
section
variable {σ:Type} (rn:σ → List Int→List Int × σ) (fr dl:Nat)
def pieces:σ → List Int→List (List Int)→List (List Int)
 | _,_,[]=>[]
 | t,h,xs::r=>(piece rn fr dl t h xs).1::pieces (piece rn fr dl t h xs).2.1 (piece rn fr dl t h xs).2.2 r
theorem pieces_length:∀ (l:List (List Int)) (t:σ) (h:List Int),(pieces rn fr dl t h l).length=l.length
 | [],_,_=>rfl
 | xs::r,t,h=>by simp [pieces,pieces_length r]
structure PIx (I:σ → Prop) (t0:σ) (h0:List Int) (xss:List (List Int)) (k:Nat) where
 t:σ
 h:List Int
 acc:List (List Int)
 ha:acc.length=k
 he:pieces rn fr dl t0 h0 xss=acc++pieces rn fr dl t h (xss.drop k)
 hI:I t
 hh:h.length=fr
 hS:∀ x∈h,S16 x
variable {rn fr dl} {I:σ → Prop} {t0:σ} {h0:List Int} {xss:List (List Int)}
def PIx.next {k:Nat} (j:PIx rn fr dl I t0 h0 xss k) {xs:List Int} (hx:xss[k]? = some xs) (hI:I (piece rn fr dl j.t j.h xs).2.1) (hl:(piece rn fr dl j.t j.h xs).2.2.length=fr) (hS:∀ x∈(piece rn fr dl j.t j.h xs).2.2,S16 x):PIx rn fr dl I t0 h0 xss (k+1) where
 t:=(piece rn fr dl j.t j.h xs).2.1
 h:=(piece rn fr dl j.t j.h xs).2.2
 acc:=j.acc++[(piece rn fr dl j.t j.h xs).1]
 ha:=by rw [List.length_append,j.ha]; rfl
 he:=by
  have h1:xss.drop k=xs::xss.drop (k+1):=by
   have hk:=(List.getElem?_eq_some_iff.1 hx).1
   rw [List.drop_eq_getElem_cons hk]
   rw [List.getElem?_eq_getElem hk] at hx
   rw [Option.some.inj hx]
  rw [j.he,h1,List.append_assoc]
  rfl
 hI:=hI
 hh:=hl
 hS:=hS
theorem PIx.fin {k:Nat} (j:PIx rn fr dl I t0 h0 xss k) (h:xss.length≤k):j.acc=pieces rn fr dl t0 h0 xss:=by
 rw [j.he,List.drop_eq_nil_of_le h]
 simp [pieces]
theorem piece_held {xs h:List Int} {t:σ} (hh:h.length=fr) (hd:dl≤fr) (hx:fr≤xs.length) (hS:∀ x∈h,S16 x) (hxS:∀ x∈xs,S16 x) :
 (piece rn fr dl t h xs).2.2.length=fr ∧ ∀ x∈(piece rn fr dl t h xs).2.2,S16 x:=by
 unfold piece pcH
 constructor
 ·simp only [List.length_append,List.length_drop,List.length_take]
  omega
 intro x hm
 simp only at hm
 rcases List.mem_append.1 hm with h1 | h1
 ·exact hxS x (List.mem_of_mem_drop h1)
 rcases List.mem_append.1 (List.mem_of_mem_drop h1) with h2 | h2
 ·exact hS x (List.mem_of_mem_take h2)
 exact hxS x (List.mem_of_mem_take h2)
end
def oB (f:Nat) (yss:List (List Int)):Blk := .vec true 32 encF [f] 1 (turns (yss.map List.length))
def famS (yss:List (List Int)):Blk := .fam 29 (encI .i16) 1 yss
def rwsV:Nat→CV
 | 0=>nilC
 | n+1 => .vec 0 (n+1)
def rwsH (yss:List (List Int)):List Blk:=match yss with
 | []=>[]
 | y::r=>[oB 1 (y::r),famS (y::r)]
def srS {σ:Type} (zO:σ → Z6) (fO:σ → List Int) (s:Sr) (v:CV) (N:Nat) (t:σ) (h:List Int) (acc:List (List Int)):Nat→S
 | 0=>⟨[(0,.o (.c v)),(8,.o (.c (.ptr 0 0))),(10,.o (.c nilC)),(33,.o (.c v)),(34,.o (.c (.val (.int .i64 N)))),(35,.o (.c (.val (.int .i64 ((0:Nat):Int)))))],[rB (zO t) s,sB h,nB (fO t)]⟩
 | k+1=>⟨[(0,.o (.c v)),(8,.o (.c (.ptr 0 0))),(10,.o (.c (.vec 3 (k+1)))),(33,.o (.c v)),(34,.o (.c (.val (.int .i64 N)))),(35,.o (.c (.val (.int .i64 ((k+1:Nat):Int)))))],[rB (zO t) s,sB h,nB (fO t),oB 4 acc,famS acc]⟩
theorem srowsAt.get {w0:World} {A:Option Addr} {ys:List (Value × List Int)} (hv:srowsAt w0 A ys) (hne:∀ x∈ys,x.2≠[]) {k:Nat} (hk:k<ys.length) :
 ∃ a az cz zs,A=some a∧(ys.map (·.2))[k]? = some zs∧w0.cell? ((a.add (k*1)).add 0)=some (.slice (some az) zs.length cz)∧zs.length≤cz∧(∀ (i:Nat) x,zs[i]? = some x→w0.cell? ((az.add (i*1)).add 0)=some (.int .i16 x))∧(∀ x∈zs,S16 x) ∧ ∃ v,(v,zs)∈ys:=by
 have hg:ys[k]? = some ys[k]:=List.getElem?_eq_getElem hk
 obtain ⟨a,hA,h1,h2⟩:=hv.at_ k _ hg
 have hm:ys[k]∈ys:=List.getElem_mem hk
 rcases h2 with ⟨_,h2⟩ | ⟨az,cz,h2,h3,_,h4⟩
 ·exact absurd h2 (hne _ hm)
 refine ⟨a,az,cz,ys[k].2,hA,by rw [List.getElem?_map,hg]; rfl,?_,h3,fun i x hx => ?_,fun x hx => ?_,ys[k].1,hm⟩
 ·rw [Addr.add_add,Nat.add_zero,h1,h2]
 ·rw [Addr.add_add,Nat.add_zero]
  exact (h4 i x hx).2
 obtain ⟨i,hi⟩:=List.mem_iff_getElem?.1 hx
 exact (h4 i x hi).1
theorem sResW (w0:World) {σ:Type} {s:Sr} {zO:σ → Z6} {fO:σ → List Int} {I:σ → Prop} {rn:σ → List Int→List Int × σ} {fr to dl R c:Nat} {A:Option Addr} {ys:List (Value × List Int)} {t0:σ} (hr:RunOk w0 s zO fO I rn) (hs:s=⟨fr,to,dl,R,fr,ordN fr to⟩)
 (hz:zO t0=Z6.zero) (hf:fO t0=List.replicate (ordN fr to) 0) (hI:I t0) (hfr:fr=8∨fr=12∨fr=16) (hto:to≤48) (hto0:0<to) (hdl:dlF fr to 15=(dl:Int)) (hdl2:dl<fr) (hRb:R≤10000000) (hR:RatOk fr to R)
 (hv:srowsAt w0 A ys) (hok:∀ x∈ys,x.2≠[]∧x.2.length % fr=0∧x.2.length≤100*fr) (hn:ys.length≤1000) :
 CallsA Tryz.prog w0 6 [.c (.val (.slice A ys.length c)),.c (.val (.int .i64 ((fr*1000:Nat):Int))),.c (.val (.int .i64 ((to*1000:Nat):Int)))] []
  fun r H=>r = .t [.c (rwsV ys.length),.c (.val (.int .i64 ((1:Nat):Int)))]∧H=rwsH (pieces rn fr dl t0 (List.replicate fr 0) (ys.map (·.2))):=by
 have e1:IntKind.i64.wrap (((fr*1000:Nat):Int).tdiv ((1000:Nat):Int))=(fr:Int):=by rw [ntdiv,wi64 (by omega)]; omega
 have e2:IntKind.i64.wrap (((to*1000:Nat):Int).tdiv ((1000:Nat):Int))=(to:Int):=by rw [ntdiv,wi64 (by omega)]; omega
 have e3:((fr*1000:Nat):Int).tmod ((1000:Nat):Int)=((0:Nat):Int):=by rw [ntmod]; omega
 have e4:((to*1000:Nat):Int).tmod ((1000:Nat):Int)=((0:Nat):Int):=by rw [ntmod]; omega
 have hsf:s.from_=fr:=by rw [hs]
 have hsd:s.dl=dl:=by rw [hs]
 have hsh:s.hn=fr:=by rw [hs]
 have e5:IntKind.i64.wrap (((100:Nat):Int)*(fr:Int))=((100*fr:Nat):Int):=by rw [nmul,wi64 (by omega)]
 have hnew:=sNewW w0 (fr:=fr) (to:=to) (dl:=dl) (R:=R) (by omega) (by omega) hto0 hdl hRb hR
 rw [← hs,← hz,← hf] at hnew
 refine callsA_of_ev c6_ ?_
 conv=>whnf
 rw [e1,e2]
 refine CallsA.liftE (H0:=[]) [] rfl trivial rfl hnew ?_
 rintro _ _ ⟨rfl,rfl⟩
 refine ⟨.t [.c (.ptr 0 0),.c (.val (.bool true))],[rB (zO t0) s,sB (List.replicate fr 0),nB (fO t0)],rfl,⟨rfl,rfl,rfl,trivial⟩,?_⟩
 conv=>whnf
 refine Or.inl ?_
 conv=>whnf
 refine ⟨fun g=>zF g,fun _=>?_⟩
 conv=>whnf
 rw [e3]
 refine ⟨fun h=>absurd h (by decide),fun _=>?_⟩
 conv=>whnf
 rw [e4]
 refine ⟨fun h=>absurd h (by decide),fun _=>?_⟩
 conv=>whnf
 refine Or.inl ?_
 conv=>whnf
 refine ⟨(k:{k:Nat // k≤ys.length}) × PIx rn fr dl I t0 (List.replicate fr 0) (ys.map (·.2)) k.1,fun ⟨⟨k,_⟩,j⟩=>srS zO fO s (.val (.slice A ys.length c)) ys.length j.t j.h j.acc k,fun x=>ys.length - x.1.1,⟨⟨⟨0,Nat.zero_le _⟩,⟨t0,List.replicate fr 0,[],rfl,rfl,hI,List.length_replicate ..,fun x hx=>by rw [List.eq_of_mem_replicate hx]; exact S16_zero⟩⟩,?_⟩,fun ⟨⟨k,hk⟩,j⟩ => ?_⟩
 ·exact ⟨[0,1,2],⟨rfl,⟨rfl,rfl,rfl,rfl,rfl,rfl,trivial⟩,rfl⟩,rfl,rfl,rfl,rfl,rfl,rfl,trivial⟩
 dsimp -iota only
 cases k with
 | zero =>
  by_cases h3:0<ys.length
  ·obtain ⟨a,az,cz,zs,rfl,hzk,hcell,hzc,hzin,hzS,zv,hzm⟩:=hv.get (fun x hx=>(hok x hx).1) h3
   obtain ⟨hz0,hzr,hzl⟩:=hok _ hzm
   dsimp -iota only at hz0 hzr hzl
   have hzp:0<zs.length:=List.length_pos_iff.2 hz0
   have hzf:fr≤zs.length:=Nat.le_of_dvd hzp (Nat.dvd_of_mod_eq_zero hzr)
   conv=>whnf
   refine ⟨fun _=>?_,fun h=>absurd (lt_f h) (by omega)⟩
   conv=>whnf
   refine Or.inl ?_
   conv=>whnf
   refine ⟨⟨Int.natCast_nonneg _,Int.ofNat_lt.2 h3⟩,?_⟩
   conv=>whnf
   refine ⟨_,hcell,rfl,?_⟩
   conv=>whnf
   refine Or.inl ?_
   conv=>whnf
   refine ⟨fun h=>absurd (beq_t h) (by omega),fun _=>?_⟩
   conv=>whnf
   rw [hsf]
   refine ⟨(by omega),?_⟩
   conv=>whnf
   rw [ntmod,hzr]
   refine ⟨fun h=>absurd h (by decide),fun _=>?_⟩
   conv=>whnf
   rw [hsf,e5]
   refine ⟨fun h=>absurd (gt_t h) (by omega),fun _=>?_⟩
   conv=>whnf
   have hp:=sPieceW w0 hr (t:=j.t) hzc hzin hzS j.hS j.hI (by rw [hsf]; exact j.hh) (by rw [hsh,hsf]) (by rw [hsd,hsf]; exact hdl2) (by rw [hsf]; omega) (by rw [hsf]; exact hzf) (by omega)
   rw [hsf,hsd] at hp
   obtain ⟨J1,J2⟩:=piece_held (rn:=rn) (dl:=dl) (t:=j.t) j.hh (by omega) hzf j.hS hzS
   have hPS:∀ x∈pcH fr dl j.h zs,S16 x:=by
    intro x hxm
    rcases List.mem_append.1 hxm with h1 | h1
    ·exact j.hS x (List.mem_of_mem_take h1)
    exact hzS x (List.mem_of_mem_take h1)
   have J3:I (piece rn fr dl j.t j.h zs).2.1:=hr.inv _ _ (hr.inv _ _ j.hI hPS) fun x hxm=>hzS x (List.mem_of_mem_drop (List.mem_of_mem_take hxm))
   have hJ:∃ J:PIx rn fr dl I t0 (List.replicate fr 0) (ys.map (·.2)) (0+1),J.t=(piece rn fr dl j.t j.h zs).2.1∧J.h=(piece rn fr dl j.t j.h zs).2.2∧J.acc=j.acc++[(piece rn fr dl j.t j.h zs).1]:=⟨j.next hzk J3 J1 J2,rfl,rfl,rfl⟩
   dsimp -iota only
   refine CallsA.liftE (H0:=[rB (zO j.t) s,sB j.h,nB (fO j.t)]) [0,1,2] rfl ⟨rfl,rfl,rfl,rfl,rfl,rfl,trivial⟩ rfl hp ?_
   clear J1 J2 J3
   generalize piece rn fr dl j.t j.h zs=p at *
   obtain ⟨J,J1,J2,J3⟩:=hJ
   rintro _ _ ⟨rfl,rfl⟩
   refine ⟨.o (.c (.vec 3 p.1.length)),[rB (zO p.2.1) s,sB p.2.2,nB (fO p.2.1),sB p.1],rfl,⟨rfl,rfl,rfl,rfl,trivial⟩,?_⟩
   conv=>whnf
   have hja:j.acc=[]:=List.length_eq_zero_iff.1 j.ha
   rw [hja] at J3
   refine ⟨[rB (zO p.2.1) s,sB p.2.2,nB (fO p.2.1),.dead,.cells 32 [.mem 6 0 p.1.length],.dead]++[famS ([]++[p.1])],
    (Ghost.fam0 w0 _ 29 (encI .i16) 1 (by omega) (fun _=>rfl)).trans (Ghost.joinL 5 3 (xss:=[]) (zs:=p.1) (wr:=true) rfl rfl ⟨.keep (by decide) (by decide),.keep (by decide) (by decide),.keep (by decide) (by decide),.dead,.cells (by decide) (by decide) rfl,.dead,trivial⟩),?_⟩
   conv=>whnf
   refine ⟨by omega,Nat × Nat,encF,[6],[(0,p.1.length)],fun x=>encF_len _ x,⟨rfl,rfl,rfl⟩,by show 1*24≤_; omega,by show 1≤_; omega,?_⟩
   conv=>whnf
   refine ⟨⟨⟨1,h3⟩,J⟩,?_,Nat.sub_lt_sub_left h3 (Nat.lt_succ_self 0)⟩
   show EmbS _ (srS zO fO s (.val (.slice (some a) ys.length c)) ys.length J.t J.h J.acc 1) _
   rw [J1,J2,J3]
   exact ⟨[0,1,2,7,6],⟨rfl,⟨rfl,rfl,rfl,rfl,rfl,rfl,rfl,rfl,rfl,rfl,trivial⟩,rfl⟩,rfl,rfl,rfl,rfl,rfl,rfl,trivial⟩
  conv=>whnf
  refine ⟨fun h=>absurd (lt_t h) h3,fun _=>?_⟩
  conv=>whnf
  have h4:ys=[]:=List.length_eq_zero_iff.1 (by omega)
  subst h4
  exact Or.inr ⟨[],.t [.c nilC,.c (.val (.int .i64 ((1:Nat):Int)))],[],⟨rfl,trivial,rfl⟩,rfl,rfl,rfl⟩
 | succ k =>
  by_cases h3:k+1<ys.length
  ·obtain ⟨a,az,cz,zs,rfl,hzk,hcell,hzc,hzin,hzS,zv,hzm⟩:=hv.get (fun x hx=>(hok x hx).1) h3
   obtain ⟨hz0,hzr,hzl⟩:=hok _ hzm
   dsimp -iota only at hz0 hzr hzl
   have hzp:0<zs.length:=List.length_pos_iff.2 hz0
   have hzf:fr≤zs.length:=Nat.le_of_dvd hzp (Nat.dvd_of_mod_eq_zero hzr)
   conv=>whnf
   refine ⟨fun _=>?_,fun h=>absurd (lt_f h) (by omega)⟩
   conv=>whnf
   refine Or.inl ?_
   conv=>whnf
   refine ⟨⟨Int.natCast_nonneg _,Int.ofNat_lt.2 h3⟩,?_⟩
   conv=>whnf
   refine ⟨_,hcell,rfl,?_⟩
   conv=>whnf
   refine Or.inl ?_
   conv=>whnf
   refine ⟨fun h=>absurd (beq_t h) (by omega),fun _=>?_⟩
   conv=>whnf
   rw [hsf]
   refine ⟨(by omega),?_⟩
   conv=>whnf
   rw [ntmod,hzr]
   refine ⟨fun h=>absurd h (by decide),fun _=>?_⟩
   conv=>whnf
   rw [hsf,e5]
   refine ⟨fun h=>absurd (gt_t h) (by omega),fun _=>?_⟩
   conv=>whnf
   have hp:=sPieceW w0 hr (t:=j.t) hzc hzin hzS j.hS j.hI (by rw [hsf]; exact j.hh) (by rw [hsh,hsf]) (by rw [hsd,hsf]; exact hdl2) (by rw [hsf]; omega) (by rw [hsf]; exact hzf) (by omega)
   rw [hsf,hsd] at hp
   obtain ⟨J1,J2⟩:=piece_held (rn:=rn) (dl:=dl) (t:=j.t) j.hh (by omega) hzf j.hS hzS
   have hPS:∀ x∈pcH fr dl j.h zs,S16 x:=by
    intro x hxm
    rcases List.mem_append.1 hxm with h1 | h1
    ·exact j.hS x (List.mem_of_mem_take h1)
    exact hzS x (List.mem_of_mem_take h1)
   have J3:I (piece rn fr dl j.t j.h zs).2.1:=hr.inv _ _ (hr.inv _ _ j.hI hPS) fun x hxm=>hzS x (List.mem_of_mem_drop (List.mem_of_mem_take hxm))
   have hJ:∃ J:PIx rn fr dl I t0 (List.replicate fr 0) (ys.map (·.2)) (k+1+1),J.t=(piece rn fr dl j.t j.h zs).2.1∧J.h=(piece rn fr dl j.t j.h zs).2.2∧J.acc=j.acc++[(piece rn fr dl j.t j.h zs).1]:=⟨j.next hzk J3 J1 J2,rfl,rfl,rfl⟩
   dsimp -iota only
   refine CallsA.liftE (H0:=[rB (zO j.t) s,sB j.h,nB (fO j.t)]) [0,1,2] rfl ⟨rfl,rfl,rfl,rfl,rfl,rfl,trivial⟩ rfl hp ?_
   clear J1 J2 J3
   generalize piece rn fr dl j.t j.h zs=p at *
   obtain ⟨J,J1,J2,J3⟩:=hJ
   rintro _ _ ⟨rfl,rfl⟩
   refine ⟨.o (.c (.vec 5 p.1.length)),[rB (zO p.2.1) s,sB p.2.2,nB (fO p.2.1),oB 4 j.acc,famS j.acc,sB p.1],rfl,⟨rfl,rfl,rfl,rfl,rfl,rfl,trivial⟩,?_⟩
   conv=>whnf
   refine ⟨[rB (zO p.2.1) s,sB p.2.2,nB (fO p.2.1),oB 7 j.acc,.dead,.dead,.cells 32 [.mem 7 j.acc.length p.1.length]]++[famS (j.acc++[p.1])],
    Ghost.joinL 4 5 (xss:=j.acc) (zs:=p.1) (wr:=true) rfl rfl ⟨.keep (by decide) (by decide),.keep (by decide) (by decide),.keep (by decide) (by decide),.vec (by decide) (by decide) rfl (fun x=>encF_len _ x) (flat_tau _ _ _ _ _).symm,.dead,.dead,.cells (by decide) (by decide) rfl,trivial⟩,?_⟩
   conv=>whnf
   have hal:=j.ha
   refine ⟨?_,[(j.acc.length,p.1.length)],⟨rfl,rfl,rfl⟩,?_,?_,?_⟩
   ·rw [turns_len,List.length_map,hal]
   ·rw [List.length_append,turns_len,List.length_map,hal]
    show (k+1+1)*24≤_
    omega
   ·rw [List.length_append,turns_len,List.length_map,hal]
    show k+1+1≤_
    omega
   conv=>whnf
   have hlen2:turns (j.acc.map List.length)++[(j.acc.length,p.1.length)]=turns ((j.acc++[p.1]).map List.length):=by
    rw [List.map_append]
    show _=turns (_++[p.1.length])
    rw [turns_snoc,List.length_map]
   have hlen3:(turns ((j.acc++[p.1]).map List.length)).length=k+1+1:=by
    rw [turns_len,List.length_map,List.length_append,hal]
    rfl
   rw [hlen2,hlen3,ninc (by omega)]
   refine ⟨⟨⟨k+1+1,h3⟩,J⟩,?_,Nat.sub_lt_sub_left h3 (Nat.lt_succ_self (k+1))⟩
   show EmbS _ (srS zO fO s (.val (.slice (some a) ys.length c)) ys.length J.t J.h J.acc (k+1+1)) _
   rw [J1,J2,J3]
   exact ⟨[0,1,2,8,7],⟨rfl,⟨rfl,rfl,rfl,rfl,rfl,rfl,rfl,rfl,rfl,rfl,trivial⟩,rfl⟩,rfl,rfl,rfl,rfl,rfl,rfl,trivial⟩
  conv=>whnf
  refine ⟨fun h=>absurd (lt_t h) h3,fun _=>?_⟩
  conv=>whnf
  have hkl:ys.length=k+1:=by omega
  have hfin:=j.fin (by rw [List.length_map]; exact Nat.le_of_eq hkl)
  have hal:=j.ha
  rw [← hfin]
  generalize j.acc=acc at *
  cases acc with
  | nil=>simp at hal
  | cons y r=>exact Or.inr ⟨[3,4],.t [.c (.vec 0 (k+1)),.c (.val (.int .i64 ((1:Nat):Int)))],[oB 1 (y::r),famS (y::r)],⟨rfl,⟨rfl,rfl,rfl,rfl,trivial⟩,rfl⟩,rfl,by rw [hkl]; rfl,rfl⟩
end Go.Proofs.YtbpogapddpacoaaGreatDoor
end
