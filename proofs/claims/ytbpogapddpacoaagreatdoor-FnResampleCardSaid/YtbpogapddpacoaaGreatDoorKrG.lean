/- Joined: RhF, RiA, RiB, RiC, RiD, IrU, PuM, PuN, PuO, RjA, RjB, RmB, RmC, RjC, RwLaid, RwLaid2. -/
import Derived.Test.YtbpogapddpacoaaGreatDoorKrF
section
namespace Go.Vc
open Go.RowKit (Below)
def nilW (nb:Nat):CV→CV
 | .val (.slice none 0 0) => .vec nb 0
 | x=>x
theorem Ghost.nilVc {w0:World} {H:List Blk} {α:Type} {T T':TypeId} {cs cs1:List CV} (c k:Nat) (e:Enc α) (bs:List Nat) (wd:Nat) (hc:H[c]? = some (.cells T' cs)) (h0:0<wd) (hw:∀ x,(e.f bs x).length=wd)
 (hcs:cs1=cs.modify k (nilW H.length)):Ghost w0 H (H.set c (.cells T' cs1)++[.vec true T e bs wd []]):=fun ρ w h=>by
 have hclt:c<H.length:=(List.getElem?_eq_some_iff.1 hc).1
 have hnone:∀ g,¬ owns (none,0) g:=by
  rintro g (h | ⟨_,ms,c,h1,h2⟩)
  ·cases h
  have:=encM_inj (a:=ms) (b:=[]) h1
  subst this
  cases h2
 have hH:∀ (b:Nat) q,(H.set c (.cells T' cs1))[b]? = some q → ∃ q0,H[b]? = some q0∧q0.live=q.live∧(q=q0∨(b=c∧q = .cells T' cs1)):=by
  intro b q hq
  by_cases hb:c=b
  ·subst hb
   rw [List.getElem?_set_self hclt] at hq
   cases hq
   exact ⟨_,hc,rfl,.inr ⟨rfl,rfl⟩⟩
  rw [List.getElem?_set_ne hb] at hq
  exact ⟨q,hq,rfl,.inl rfl⟩
 have hlen:(H.set c (.cells T' cs1)).length=H.length:=List.length_set
 have hown:∀ b q g,(H.set c (.cells T' cs1)++[.vec true T e bs wd []])[b]? = some q→Ren.own (ρ ++ [(none,0)]) b g→b<H.length∧(H.set c (.cells T' cs1))[b]? = some q ∧ ρ.own b g:=by
  intro b q g hq hg
  rcases push_get hq with ⟨h1,h2⟩ | ⟨h1,_⟩
  ·rw [own_append (by rw [h.len]; omega)] at hg
   exact ⟨by omega,h2,hg⟩
  rw [h1,hlen,← h.len,own_last] at hg
  exact absurd hg (hnone g)
 have himg:∀ g,image (ρ ++ [(none,0)]) (H.set c (.cells T' cs1)++[.vec true T e bs wd []]) g→image ρ H g:=by
  rintro g ⟨b,q,hq,hl,hg⟩
  obtain ⟨_,h2,h3⟩:=hown b q g hq hg
  obtain ⟨q0,r1,r2,_⟩:=hH b q h2
  exact ⟨b,q0,r1,by rw [r2]; exact hl,h3⟩
 have hget:(ρ ++ [(none,0)])[H.length]? = some (none,0):=by rw [← h.len]; simp
 have hτ:∀ x v,CV.R ρ x v→(nilW H.length x).R (ρ ++ [(none,0)]) v:=by
  intro x v hx
  unfold nilW
  split
  ·exact ⟨_,hget,.inr ⟨rfl,rfl,hx.1⟩⟩
  exact CV.R.more _ hx
 have hmod:∀ (k:Nat) (l:List CV) (vs:List Value),All2 (CV.R ρ) l vs→All2 (CV.R (ρ ++ [(none,0)])) (l.modify k (nilW H.length)) vs:=by
  intro k l vs hA
  induction hA generalizing k with
  | nil=>cases k <;> exact .nil
  | cons ha hr ih =>
   cases k with
   | zero=>exact .cons (hτ _ _ ha) (hr.mono fun _ _=>CV.R.more _)
   | succ k=>exact .cons (CV.R.more _ ha) (ih k)
 refine ⟨[(none,0)],⟨by simp [h.len],fun b q e1 hq he => ?_,fun b b' k k' g hb hb' l l' a a' => ?_,fun g hg=>h.lo g (himg g hg),h.base⟩,himg⟩
 ·rcases push_get hq with ⟨h1,h2⟩ | ⟨h1,rfl⟩
  ·rw [List.getElem?_append_left (by rw [h.len]; omega)] at he
   obtain ⟨q0,r1,_,rfl | ⟨rfl,rfl⟩⟩:=hH b q h2
   ·exact (h.ok b q e1 r1 he).more _
   obtain ⟨g,arr,s1,s2,s3⟩:=h.ok b _ e1 hc he
   exact ⟨g,arr,s1,s2,by rw [hcs]; exact hmod k cs _ s3⟩
  rw [h1,hlen,← h.len] at he
  simp at he
  subst he
  exact ⟨h0,hw,.inl ⟨rfl,rfl,rfl⟩⟩
 obtain ⟨_,h2,h3⟩:=hown b k g hb a
 obtain ⟨_,h2',h3'⟩:=hown b' k' g hb' a'
 obtain ⟨q0,r1,r2,_⟩:=hH b k h2
 obtain ⟨q1,t1,t2,_⟩:=hH b' k' h2'
 exact h.inj b b' q0 q1 g r1 t1 (by rw [r2]; exact l) (by rw [t2]; exact l') h3 h3'
end Go.Vc
namespace Go.Proofs.YtbpogapddpacoaaGreatDoor
open Go Go.Vc
set_option maxRecDepth 100000
set_option maxHeartbeats 8000000
def rK {σ:Type} (zO:σ → Z6) (F G:σ → List Int) (s:Sc) (q L:Nat) (t:σ) (h:List Int) (ni no nx:Nat):Blk:=rP (zO t) (F t) (G t) (dly h) s (xc q L) (slV ni 4) (slV no 5) (xa q 6 nx) (xb q 6 nx)
def cc0 (c:CV):Blk := .cells 22 [c]
def cc1:Blk := .cells 3 [ci .i64 ((0:Nat):Int)]
def irS {σ:Type} (zO:σ → Z6) (F G:σ → List Int) (s:Sc) (q:Nat) (co:List Int) (v:CV) (N a b k:Nat) (t:σ) (h:List Int) (acc:List (List Int)) (i o l:List Int):S :=
 ⟨[(0,.o (.c v)),(1,.o (.c (.val (.int .i64 a)))),(2,.o (.c (.val (.int .i64 b)))),(6,.o (.c (.ptr 0 0))),(7,.o (.c (.ptr 1 0))),(8,.o (.c (.ptr 2 0))),(23,.o (.c v)),(24,.o (.c (.val (.int .i64 N)))),(25,.o (.c (.val (.int .i64 (k:Nat)))))],
  [cc0 (.vec 8 k),cc1,rK zO F G s q co.length t h i.length o.length l.length,kB co,sB i,sB o,xB q l,famS acc,oB 7 acc]⟩
theorem rK0 {σ:Type} {zO:σ → Z6} {F G:σ → List Int} {s:Sc} {q L fr:Nat} {t0:σ} (hfi:s.fi=fr):(rP (zO t0) (F t0) (G t0) (dly (zr s.fi)) s (if q=3 then .vec 1 L else nilC) nilC nilC nilC nilC).ren [2,3,4,5,6]=rK zO F G s q L t0 (zr fr) 0 0 0:=by
 subst hfi
 have e1:xa q 6 0=nilC:=by unfold xa; split <;> rfl
 have e2:xb q 6 0=nilC:=by unfold xb; split <;> rfl
 unfold rK
 rw [e1,e2]
 refine rP_ren ?_ rfl rfl rfl rfl
 unfold xc
 split <;> rfl
theorem F0:encR.f [] 0=[CV.val (.float .f32 0)]:=by
 show [CV.val (.float .f32 (F32 0))]=_
 rw [show F32 0=0 from by decide]
def ifS {σ:Type} (zO:σ → Z6) (F G:σ → List Int) (s:Sc) (q:Nat) (co:List Int) (v:CV) (N a b k:Nat) (t:σ) (h:List Int) (acc:List (List Int)) (i o l:List Int) (z:CV) (zs:List Int) (d:Nat):S :=
 ⟨[(0,.o (.c v)),(1,.o (.c (.val (.int .i64 a)))),(2,.o (.c (.val (.int .i64 b)))),(6,.o (.c (.ptr 0 0))),(7,.o (.c (.ptr 1 0))),(8,.o (.c (.ptr 2 0))),(23,.o (.c v)),(24,.o (.c (.val (.int .i64 N)))),(25,.o (.c (.val (.int .i64 (k:Nat))))),(10,.o (.c z)),(11,.o (.c (.vec 9 zs.length))),(32,.o (.c z)),(33,.o (.c (.val (.int .i64 zs.length)))),(34,.o (.c (.val (.int .i64 (d:Nat)))))],
  [cc0 (.vec 8 k),cc1,rK zO F G s q co.length t h i.length o.length l.length,kB co,sB i,sB o,xB q l,famS acc,oB 7 acc,flB (wr (List.replicate zs.length 0) 0 (zs.take d))]⟩
theorem pieceLen {w0:World} {q Lx fr to m:Nat} {s:Sc} {co:List Int} {σ:Type} {zO:σ → Z6} {F G:σ → List Int} {I:σ → Prop} {rn:σ → List Int→List Int × σ} (hpk:PK w0 q s co Lx zO F G I rn) (hfi:s.fi=fr) (hfo:s.fo=to) (hfr:0<fr) (hdl:s.dl≤fr) {t:σ} {h zs:List Int} (hI:I t)
 (hPS:∀ x∈pcH fr s.dl h zs,S16 x) (hh:h.length=fr) (hzf:fr≤zs.length) (hzr:zs.length % fr=0) (hm:m=zs.length / fr*to):(piece rn fr s.dl t h zs).1.length=m:=by
 have h1:(pcH fr s.dl h zs).length=fr:=by unfold pcH; rw [List.length_append,List.length_take,List.length_take]; omega
 have h2:(pcR fr s.dl zs).length=zs.length - fr:=by unfold pcR; rw [List.length_take,List.length_drop]; omega
 obtain ⟨K,hK⟩:=Nat.dvd_of_mod_eq_zero hzr
 obtain ⟨K',rfl⟩:∃ K',K=K'+1:=by
  rcases Nat.eq_zero_or_pos K with h | h
  ·subst h; omega
  exact ⟨K - 1,by omega⟩
 have h3:zs.length - fr=fr*K':=by rw [hK,Nat.mul_add,Nat.mul_one,Nat.add_sub_cancel]
 have l1:=hpk.len t _ hI (by rw [h1,hfi]; exact Nat.dvd_refl _)
 have l2:=hpk.len _ (pcR fr s.dl zs) (hpk.inv t _ hI hPS) (by rw [h2,h3,hfi]; exact ⟨K',rfl⟩)
 rw [h1,hfi,hfo,Nat.div_self hfr] at l1
 rw [h2,h3,hfi,hfo,Nat.mul_div_cancel_left _ hfr] at l2
 unfold piece
 have h4:zs.length / fr=K'+1:=by rw [hK]; exact Nat.mul_div_cancel_left _ hfr
 rw [List.length_append,l1,l2,hm,h4,Nat.add_mul,Nat.one_mul,Nat.add_comm]
def pH {σ:Type} (zO:σ → Z6) (F G:σ → List Int) (s:Sc) (q:Nat) (co:List Int) (k:Nat) (acc:List (List Int)) (zs:List Int) (p:List Int × σ × List Int) (i o l:List Int):List Blk :=
 [cc0 (.vec 8 k),cc1,rP (zO p.2.1) (F p.2.1) (G p.2.1) (dly p.2.2) s (xc q co.length) (slV i.length 11) (slV o.length 12) (xa q 13 l.length) (xb q 13 l.length),kB co,.dead,.dead,.dead,famS acc,oB 7 acc,flB zs,flB p.1,sB i,sB o,xB q l]
def igS (v:CV) (N a b k m d:Nat) (H:List Blk) (Y:List Int):S :=
 ⟨[(0,.o (.c v)),(1,.o (.c (.val (.int .i64 a)))),(2,.o (.c (.val (.int .i64 b)))),(6,.o (.c (.ptr 0 0))),(7,.o (.c (.ptr 1 0))),(8,.o (.c (.ptr 2 0))),(23,.o (.c v)),(24,.o (.c (.val (.int .i64 N)))),(25,.o (.c (.val (.int .i64 (k:Nat))))),(15,.o (.c (outV 14 (Y.take d).length))),(57,.o (.c (.vec 10 m))),(58,.o (.c (.val (.int .i64 (m:Nat))))),(59,.o (.c (.val (.int .i64 (d:Nat)))))],
  H++outS (Y.take d)⟩
theorem iResW (w0:World) {q Lx fr to c:Nat} {s:Sc} {co:List Int} {σ:Type} {zO:σ → Z6} {F G:σ → List Int} {I:σ → Prop} {rn:σ → List Int→List Int × σ} {A:Option Addr} {ys:List (Value × List Int)} {t0:σ} (hpk:PK w0 q s co Lx zO F G I rn)
 (hinit:CallsA Tryz.prog w0 13 [.c (.ptr 0 0),.c (.val (.int .i64 ((fr*1000:Nat):Int))),.c (.val (.int .i64 ((to*1000:Nat):Int)))] [r0B z0S] fun r H=>r = .o (.c (.val .nilIface))∧H=[rP (zO t0) (F t0) (G t0) (dly (zr s.fi)) s (if q=3 then .vec 1 co.length else nilC) nilC nilC nilC nilC,kB co,sB [],sB [],xB q []])
 (hI:I t0) (hfi:s.fi=fr) (hfo:s.fo=to) (hfr:fr=8∨fr=12∨fr=16) (hto:to≤48) (hto0:0<to) (hdl:s.dl<fr) (hv:srowsAt w0 A ys) (hok:∀ x∈ys,x.2≠[]∧x.2.length % fr=0∧x.2.length≤100*fr) (hn:ys.length≤1000) :
 CallsA Tryz.prog w0 7 [.c (.val (.slice A ys.length c)),.c (.val (.int .i64 ((fr*1000:Nat):Int))),.c (.val (.int .i64 ((to*1000:Nat):Int)))] []
  fun r H=>r = .t [.c (.vec 0 ys.length),.c (.val (.int .i64 ((0:Nat):Int)))]∧H=[oB 1 (pieces rn fr s.dl t0 (zr fr) (ys.map (·.2))),famS (pieces rn fr s.dl t0 (zr fr) (ys.map (·.2)))]:=by
 refine callsA_of_evD c7_ ?_
 conv=>whnf
 refine Or.inl ?_
 conv=>whnf
 refine CallsA.ghostR (R:=fun r H=>r = .o (.c (.val .nilIface))∧H=[cc0 nilC,cc1,rK zO F G s q co.length t0 (zr fr) 0 0 0,kB co,sB [],sB [],xB q []]) (CallsA.liftE (H0:=[r0B z0S]) [2] rfl ⟨rfl,rfl,trivial⟩ rfl hinit ?_) ?_
 ·rintro _ _ ⟨rfl,rfl⟩
  exact ⟨.o (.c (.val .nilIface)),[cc0 nilC,cc1,rK zO F G s q co.length t0 (zr fr) 0 0 0,kB co,sB [],sB [],xB q []],rfl,⟨rfl,rfl,rK0 hfi,rfl,rfl,rfl,rfl,trivial⟩,rfl,rfl⟩
 rintro _ _ ⟨rfl,rfl⟩
 refine ⟨[cc0 (.vec 8 0),cc1,rK zO F G s q co.length t0 (zr fr) 0 0 0,kB co,sB [],sB [],xB q [],famS [],oB 7 []],(Ghost.fam0 w0 _ 29 (encI .i16) 1 (by omega) (fun _=>rfl)).trans (Ghost.nilVc (T:=32) 0 0 encF [7] 1 rfl (by omega) (fun x=>encF_len _ x) rfl),?_⟩
 conv=>whnf
 refine ⟨fun g=>zF g,fun _=>?_⟩
 conv=>whnf
 refine Or.inl ?_
 conv=>whnf
 refine ⟨(k:{k:Nat // k≤ys.length}) × {j:PIx rn fr s.dl I t0 (zr fr) (ys.map (·.2)) k.1 × (List Int × List Int × List Int) // j.2.1.length≤1600∧j.2.2.1.length≤5000∧(j.2.2.2=[]∨(q≠0∧q≠1∧j.2.2.2.length=Lx))},fun ⟨⟨k,_⟩,⟨(j,i,o,l),_⟩⟩=>irS zO F G s q co (.val (.slice A ys.length c)) ys.length (fr*1000) (to*1000) k j.t j.h j.acc i o l,fun x=>ys.length - x.1.1,⟨⟨⟨0,Nat.zero_le _⟩,⟨(⟨t0,zr fr,[],rfl,rfl,hI,List.length_replicate ..,fun x hx=>by rw [List.eq_of_mem_replicate hx]; exact S16_zero⟩,[],[],[]),Nat.zero_le _,Nat.zero_le _,.inl rfl⟩⟩,?_⟩,fun ⟨⟨k,hk⟩,⟨(j,i,o,l),hi,ho,hl⟩⟩ => ?_⟩
 ·exact ⟨[0,1,2,3,4,5,6,7,8],⟨rfl,⟨rfl,rfl,rfl,rfl,rP_embK rfl rfl rfl rfl rfl (slV_ren rfl _) (slV_ren rfl _) rfl,rfl,rfl,rfl,rfl,rfl,rfl,rfl,rfl,rfl,rfl,rfl,rfl,rfl,trivial⟩,rfl⟩,rfl,rfl,rfl,rfl,rfl,rfl,rfl,rfl,rfl,trivial⟩
 dsimp -iota only at hi ho hl
 by_cases h3:k<ys.length
 ·obtain ⟨a,az,cz,zs,rfl,hzk,hcell,hzc,hzin,hzS,zv,hzm⟩:=hv.get (fun x hx=>(hok x hx).1) h3
  obtain ⟨hz0,hzr,hzl⟩:=hok _ hzm
  dsimp -iota only at hz0 hzr hzl
  have hzp:0<zs.length:=List.length_pos_iff.2 hz0
  have hzf:fr≤zs.length:=Nat.le_of_dvd hzp (Nat.dvd_of_mod_eq_zero hzr)
  conv=>whnf
  refine ⟨fun _=>?_,fun h=>absurd (lt_f h) (by omega)⟩
  conv=>whnf
  refine Or.inl ?_
  conv=>whnf
  obtain ⟨m,hm⟩:∃ m,m=zs.length / fr*to:=⟨_,rfl⟩
  have hm1:m≤100*48:=by rw [hm]; exact Nat.mul_le_mul (Nat.div_le_of_le_mul (by rw [Nat.mul_comm]; exact hzl)) hto
  have hm0:0<m:=by rw [hm]; exact Nat.mul_pos (Nat.div_pos hzf (by omega)) hto0
  have hmq:zs.length*(to*1000) / (fr*1000)=m:=by
   obtain ⟨d,hd⟩:=Nat.dvd_of_mod_eq_zero hzr
   rw [hm,hd,Nat.mul_div_cancel_left _ (by omega),show fr*d*(to*1000)=d*to*(fr*1000) by rw [Nat.mul_comm fr d,Nat.mul_mul_mul_comm]]
   exact Nat.mul_div_cancel _ (by omega)
  have hq1:zs.length*(to*1000)≤1600*48000:=Nat.mul_le_mul (by omega) (by omega)
  have e1:IntKind.i64.wrap ((zs.length:Int)*((to*1000:Nat):Int))=((zs.length*(to*1000):Nat):Int):=by rw [nmul,wi64 (by omega)]
  have e2:IntKind.i64.wrap (((zs.length*(to*1000):Nat):Int).tdiv ((fr*1000:Nat):Int))=(m:Int):=by rw [ntdiv,hmq,wi64 (by omega)]
  clear hmq
  refine ⟨⟨Int.natCast_nonneg _,Int.ofNat_lt.2 h3⟩,?_⟩
  conv=>whnf
  refine ⟨_,hcell,rfl,?_⟩
  conv=>whnf
  refine ⟨⟨Int.natCast_nonneg _,Int.le_refl _,by omega,by omega,by decide⟩,?_⟩
  conv=>whnf
  refine ⟨Int,encR,[],0,fun _=>rfl,F0,Or.inl ?_⟩
  conv=>whnf
  refine Or.inl ?_
  conv=>whnf
  refine ⟨{d:Nat // d≤zs.length},fun ⟨d,_⟩=>ifS zO F G s q co (.val (.slice (some a) ys.length c)) ys.length (fr*1000) (to*1000) k j.t j.h j.acc i o l (.val (.slice (some az) zs.length cz)) zs d,fun d=>zs.length - d.1,⟨⟨0,Nat.zero_le _⟩,?_⟩,fun ⟨d,hd⟩ => ?_⟩
  ·exact ⟨[0,1,2,3,4,5,6,7,8,9],⟨rfl,⟨rfl,rfl,rfl,rfl,rP_embK rfl rfl rfl rfl rfl (slV_ren rfl _) (slV_ren rfl _) rfl,rfl,rfl,rfl,rfl,rfl,rfl,rfl,rfl,rfl,rfl,rfl,rfl,rfl,rfl,rfl,trivial⟩,rfl⟩,rfl,rfl,rfl,rfl,rfl,rfl,rfl,rfl,rfl,rfl,rfl,rfl,rfl,rfl,trivial⟩
  conv=>whnf
  refine ⟨fun h4 => ?_,fun h4 => ?_⟩
  ·have h4:d<zs.length:=lt_t h4
   obtain ⟨x,hx⟩:∃ x,zs[d]? = some x:=⟨_,List.getElem?_eq_getElem h4⟩
   have hxS:=hzS x (List.mem_of_getElem? hx)
   have htk:(zs.take d).length=d:=by rw [List.length_take]; exact Nat.min_eq_left hd
   conv=>whnf
   refine ⟨⟨Int.natCast_nonneg _,Int.ofNat_lt.2 h4⟩,?_⟩
   conv=>whnf
   refine ⟨_,hzin d x hx,rfl,?_⟩
   conv=>whnf
   refine ⟨_,g_i2f .i16 x,?_⟩
   conv=>whnf
   refine ⟨rfl,_,g_div hxS,?_⟩
   conv=>whnf
   refine ⟨⟨Int.natCast_nonneg _,Int.ofNat_lt.2 h4⟩,?_⟩
   conv=>whnf
   obtain ⟨g0,hg0⟩:=wr_get (List.replicate zs.length 0) 0 (zs.take d) d (by rw [htk,List.length_replicate,Nat.zero_add]; exact hd) (by rw [List.length_replicate]; exact h4)
   refine ⟨g0,x,hg0,rfl,?_⟩
   rw [show ((d:Nat):Int).toNat=d from rfl,wr_set (List.replicate zs.length 0) 0 (zs.take d) d x (by rw [htk,Nat.zero_add]) (by rw [List.length_replicate]; exact h4)]
   conv=>whnf
   rw [ninc (by omega),show zs.take d++[x]=zs.take (d+1) by rw [List.take_add_one,hx]; rfl]
   refine ⟨⟨d+1,h4⟩,?_,Nat.sub_lt_sub_left h4 (Nat.lt_succ_self d)⟩
   exact ⟨[0,1,2,3,4,5,6,7,8,9],⟨rfl,⟨rfl,rfl,rfl,rfl,rP_embK rfl rfl rfl rfl rfl (slV_ren rfl _) (slV_ren rfl _) rfl,rfl,rfl,rfl,rfl,rfl,rfl,rfl,rfl,rfl,rfl,rfl,rfl,rfl,rfl,rfl,trivial⟩,rfl⟩,rfl,rfl,rfl,rfl,rfl,rfl,rfl,rfl,rfl,rfl,rfl,rfl,rfl,rfl,trivial⟩
  have h4:zs.length≤d:=lt_f h4
  conv=>whnf
  rw [List.take_of_length_le h4,wr_full (by rw [List.length_replicate]),e1]
  refine ⟨(by omega),?_⟩
  conv=>whnf
  rw [e2]
  refine ⟨⟨Int.natCast_nonneg _,Int.le_refl _,by omega,by omega,by decide⟩,?_⟩
  conv=>whnf
  refine ⟨Int,encR,[],0,fun _=>rfl,F0,Or.inl ?_⟩
  conv=>whnf
  refine Or.inl ?_
  conv=>whnf
  have hc:=rResW w0 hpk (Ni:=i.length) (No:=o.length) (Mi:=1600) (Mo:=5000) (t:=j.t) (h:=j.h) (xs:=zs) (y0:=List.replicate m 0) (i0:=i) (o0:=o) (l:=l) j.hI (by rw [hfi]; exact j.hh) j.hS (by rw [hfi]; exact hfr) (by rw [hfo]; exact hto0) (by rw [hfo]; exact hto) (by rw [hfi]; exact hdl) hzS (by rw [hfi]; exact Nat.dvd_of_mod_eq_zero hzr) hzp (by omega)
   rfl rfl hi (by omega) (by decide) ho (by rw [List.length_replicate,hfo]; omega) (by decide) hl (by rw [List.length_replicate,hfi,hfo]; exact hm)
  rw [List.length_replicate,hfi] at hc
  obtain ⟨J1,J2⟩:=piece_held (rn:=rn) (dl:=s.dl) (t:=j.t) j.hh (by omega) hzf j.hS hzS
  have hPS:∀ x∈pcH fr s.dl j.h zs,S16 x:=by
   intro x hxm
   rcases List.mem_append.1 hxm with h1 | h1
   ·exact j.hS x (List.mem_of_mem_take h1)
   exact hzS x (List.mem_of_mem_take h1)
  have hRS:∀ x∈pcR fr s.dl zs,S16 x:=fun x hxm=>hzS x (List.mem_of_mem_drop (List.mem_of_mem_take hxm))
  have hI2:=hpk.inv _ _ j.hI hPS
  have J3:I (piece rn fr s.dl j.t j.h zs).2.1:=hpk.inv _ _ hI2 hRS
  have hYS:∀ y∈(piece rn fr s.dl j.t j.h zs).1,S16 y:=by
   intro y hy
   rcases List.mem_append.1 hy with h1 | h1
   ·exact hpk.out _ _ j.hI hPS y h1
   exact hpk.out _ _ hI2 hRS y h1
  have hYl:(piece rn fr s.dl j.t j.h zs).1.length=m:=pieceLen hpk hfi hfo (by omega) (by omega) j.hI hPS j.hh hzf hzr hm
  have hJ:∃ J:PIx rn fr s.dl I t0 (zr fr) (ys.map (·.2)) (k+1),J.t=(piece rn fr s.dl j.t j.h zs).2.1∧J.h=(piece rn fr s.dl j.t j.h zs).2.2∧J.acc=j.acc++[(piece rn fr s.dl j.t j.h zs).1]:=⟨j.next hzk J3 J1 J2,rfl,rfl,rfl⟩
  clear J1 J2 J3 hI2 hPS hRS
  generalize piece rn fr s.dl j.t j.h zs=p at *
  obtain ⟨J,J1,J2,J3⟩:=hJ
  refine CallsA.liftE (H0:=[rK zO F G s q co.length j.t j.h i.length o.length l.length,flB zs,flB (List.replicate m 0),kB co,sB i,sB o,xB q l]) [2,9,10,3,4,5,6] rfl ⟨rP_embK rfl rfl rfl rfl rfl (slV_ren rfl _) (slV_ren rfl _) rfl,rfl,rfl,rfl,rfl,rfl,rfl,rfl,rfl,rfl,rfl,rfl,rfl,rfl,trivial⟩ rfl hc ?_
  rintro _ _ ⟨rfl,i1,o1,l1,hi1,ho1,hl1,rfl⟩
  refine ⟨.o (.c (.val .nilIface)),pH zO F G s q co k j.acc zs p i1 o1 l1,rfl,⟨rfl,rfl,rP_ren (xc_ren rfl _ _) (slV_ren rfl _) (slV_ren rfl _) (xa_ren rfl _ _) (xb_ren rfl _ _),rfl,rfl,rfl,rfl,rfl,rfl,rfl,rfl,rfl,rfl,rfl,trivial⟩,?_⟩
  conv=>whnf
  refine ⟨fun g=>zF g,fun _=>?_⟩
  conv=>whnf
  refine Or.inl ?_
  conv=>whnf
  refine ⟨{d:Nat // d≤m},fun d=>igS (.val (.slice (some a) ys.length c)) ys.length (fr*1000) (to*1000) k m d.1 (pH zO F G s q co k j.acc zs p i1 o1 l1) p.1,fun d=>m - d.1,⟨⟨0,Nat.zero_le _⟩,?_⟩,fun d => ?_⟩
  ·exact ⟨[0,1,2,3,4,5,6,7,8,9,10,11,12,13],⟨rfl,⟨rfl,rfl,rfl,rfl,rP_embK rfl rfl rfl rfl rfl (slV_ren rfl _) (slV_ren rfl _) rfl,rfl,rfl,rfl,lk 14 rfl rfl,lk 14 rfl rfl,lk 14 rfl rfl,rfl,rfl,rfl,rfl,rfl,rfl,rfl,rfl,rfl,rfl,rfl,rfl,rfl,rfl,trivial⟩,rfl⟩,rfl,rfl,rfl,rfl,rfl,rfl,rfl,rfl,rfl,rfl,rfl,rfl,rfl,trivial⟩
  obtain ⟨d,hd⟩:=d
  dsimp -iota only [igS]
  rcases Nat.eq_zero_or_pos d with hd0 | hd0
  ·subst hd0
   rw [List.take_zero]
   conv=>whnf
   refine ⟨fun _=>?_,fun h=>absurd (lt_f h) (by omega)⟩
   obtain ⟨x,hx⟩:∃ x,p.1[0]? = some x:=⟨_,List.getElem?_eq_getElem (by omega)⟩
   have hxS:=hYS x (List.mem_of_getElem? hx)
   conv=>whnf
   refine ⟨⟨Int.le_refl _,Int.ofNat_lt.2 hm0⟩,?_⟩
   conv=>whnf
   refine ⟨x,hx,?_⟩
   conv=>whnf
   refine ⟨rfl,_,g_mul hxS,?_⟩
   conv=>whnf
   refine ⟨_,g_f2i hxS,?_⟩
   conv=>whnf
   refine ⟨by decide,Int,encI .i16,[],[x],fun _=>rfl,⟨rfl,rfl,rfl⟩,by show 1*2≤_; decide,by show 1≤_; decide,?_⟩
   conv=>whnf
   have ht:p.1.take 1=[x]:=by rw [List.take_add_one,List.take_zero,hx]; rfl
   refine ⟨⟨1,hm0⟩,?_,Nat.sub_lt_sub_left hm0 (Nat.lt_succ_self 0)⟩
   dsimp -iota only
   rw [ht]
   exact ⟨[0,1,2,3,4,5,6,7,8,9,10,11,12,13,15],⟨rfl,⟨rfl,rfl,rfl,rfl,rP_embK rfl rfl rfl rfl rfl (slV_ren rfl _) (slV_ren rfl _) rfl,rfl,rfl,rfl,lk 16 rfl rfl,lk 16 rfl rfl,lk 16 rfl rfl,rfl,rfl,rfl,rfl,rfl,rfl,rfl,rfl,rfl,rfl,rfl,rfl,rfl,rfl,rfl,rfl,trivial⟩,rfl⟩,rfl,rfl,rfl,rfl,rfl,rfl,rfl,rfl,rfl,rfl,rfl,rfl,rfl,trivial⟩
  have hkl:(p.1.take d).length=d:=by rw [List.length_take,hYl]; exact Nat.min_eq_left hd
  have hkn:p.1.take d≠[]:=by intro h; rw [h] at hkl; simp at hkl; omega
  rw [outS_pos hkn,outV_pos (n:=(p.1.take d).length) (by omega)]
  conv=>whnf
  refine ⟨fun h4 => ?_,fun h4 => ?_⟩
  ·have h4:d<m:=lt_t h4
   obtain ⟨x,hx⟩:∃ x,p.1[d]? = some x:=⟨_,List.getElem?_eq_getElem (by omega)⟩
   have hxS:=hYS x (List.mem_of_getElem? hx)
   conv=>whnf
   refine ⟨⟨Int.natCast_nonneg _,Int.ofNat_lt.2 h4⟩,?_⟩
   conv=>whnf
   refine ⟨x,hx,?_⟩
   conv=>whnf
   refine ⟨rfl,_,g_mul hxS,?_⟩
   conv=>whnf
   refine ⟨_,g_f2i hxS,?_⟩
   conv=>whnf
   refine ⟨rfl,[x],⟨rfl,rfl,rfl⟩,by show _*2≤_; rw [List.length_append]; show (_+1)*2≤_; omega,by rw [List.length_append]; show _+1≤_; omega,?_⟩
   conv=>whnf
   have ht:p.1.take (d+1)=p.1.take d++[x]:=by rw [List.take_add_one,hx]; rfl
   rw [ninc (by omega)]
   refine ⟨⟨d+1,h4⟩,?_,Nat.sub_lt_sub_left h4 (Nat.lt_succ_self d)⟩
   dsimp -iota only
   rw [ht,outV_pos (n:=(p.1.take d++[x]).length) (by rw [List.length_append]; exact Nat.succ_pos _),outS_pos (l:=p.1.take d++[x]) (by simp)]
   exact ⟨[0,1,2,3,4,5,6,7,8,9,10,11,12,13,16],⟨rfl,⟨rfl,rfl,rfl,rfl,rP_embK rfl rfl rfl rfl rfl (slV_ren rfl _) (slV_ren rfl _) rfl,rfl,rfl,rfl,lk 17 rfl rfl,lk 17 rfl rfl,lk 17 rfl rfl,rfl,rfl,rfl,rfl,rfl,rfl,rfl,rfl,rfl,rfl,rfl,rfl,rfl,rfl,rfl,rfl,trivial⟩,rfl⟩,rfl,rfl,rfl,rfl,rfl,rfl,rfl,rfl,rfl,rfl,rfl,rfl,rfl,trivial⟩
  have h4:m≤d:=lt_f h4
  conv=>whnf
  rw [List.take_of_length_le (show p.1.length≤d by rw [hYl]; exact h4),hYl]
  have hal:=j.ha
  refine ⟨[cc0 (.vec 8 k),cc1,rP (zO p.2.1) (F p.2.1) (G p.2.1) (dly p.2.2) s (xc q co.length) (slV i1.length 11) (slV o1.length 12) (xa q 13 l1.length) (xb q 13 l1.length),kB co,.dead,.dead,.dead,.dead,oB 16 j.acc,.dead,.dead,sB i1,sB o1,xB q l1,.dead,.cells 32 [.mem 16 j.acc.length m]]++[famS (j.acc++[p.1])],
   Ghost.joinL 7 14 (xss:=j.acc) (zs:=p.1) (wr:=true) rfl rfl ⟨.keep (by decide) (by decide),.keep (by decide) (by decide),.keep (by decide) (by decide),.keep (by decide) (by decide),.dead,.dead,.dead,.dead,.vec (by decide) (by decide) rfl (fun x=>encF_len _ x) (flat_tau _ _ _ _ _).symm,.dead,.dead,.keep (by decide) (by decide),.keep (by decide) (by decide),.keep (by decide) (by decide),.dead,.cells (by decide) (by decide) rfl,trivial⟩,?_⟩
  conv=>whnf
  refine ⟨?_,[(j.acc.length,m)],⟨rfl,rfl,rfl⟩,?_,?_,?_⟩
  ·rw [turns_len,List.length_map,hal]
  ·rw [List.length_append,turns_len,List.length_map,hal]
   show (k+1)*24≤_
   omega
  ·rw [List.length_append,turns_len,List.length_map,hal]
   show k+1≤_
   omega
  conv=>whnf
  have hlen2:turns (j.acc.map List.length)++[(j.acc.length,m)]=turns ((j.acc++[p.1]).map List.length):=by
   rw [List.map_append,← hYl]
   show _=turns (_++[p.1.length])
   rw [turns_snoc,List.length_map]
  have hlen3:(turns ((j.acc++[p.1]).map List.length)).length=k+1:=by
   rw [turns_len,List.length_map,List.length_append,hal]
   rfl
  rw [hlen2,hlen3,ninc (by omega)]
  refine ⟨⟨⟨k+1,h3⟩,⟨(J,i1,o1,l1),hi1,ho1,hl1⟩⟩,?_,Nat.sub_lt_sub_left h3 (Nat.lt_succ_self k)⟩
  show EmbS _ (irS zO F G s q co (.val (.slice (some a) ys.length c)) ys.length (fr*1000) (to*1000) (k+1) J.t J.h J.acc i1 o1 l1) _
  rw [J1,J2,J3]
  exact ⟨[0,1,2,3,11,12,13,16,17],⟨rfl,⟨rfl,rfl,rfl,rfl,rP_embK rfl rfl rfl rfl rfl (slV_ren rfl _) (slV_ren rfl _) rfl,rfl,rfl,rfl,rfl,rfl,rfl,rfl,rfl,rfl,rfl,rfl,rfl,rfl,trivial⟩,rfl⟩,rfl,rfl,rfl,rfl,rfl,rfl,rfl,rfl,rfl,trivial⟩
 conv=>whnf
 refine ⟨fun h=>absurd (lt_t h) h3,fun _=>?_⟩
 conv=>whnf
 have hkl:k=ys.length:=by omega
 have hfin:=j.fin (by rw [List.length_map]; exact Nat.le_of_eq hkl.symm)
 have hal:=j.ha
 rw [← hfin]
 exact Or.inr ⟨[8,7],.t [.c (.vec 0 k),.c (.val (.int .i64 ((0:Nat):Int)))],[oB 1 j.acc,famS j.acc],⟨rfl,⟨rfl,rfl,rfl,rfl,trivial⟩,rfl⟩,rfl,by rw [hkl],rfl⟩
section
variable {σ:Type} {each:σ → List Int→List Int × σ} {scale c r bits:Nat} {at_:List Int→Int→Int}
theorem bat_len {fr to:Nat} (hfr:0<fr) (hcnt:∀ j,j<11→cntI (j*fr*scale*65536) r=j*to):∀ (n:Nat) (z:σ) (f xs:List Int),fr∣xs.length→xs.length≤n→(bat each scale (10*fr) r bits at_ n z f xs).1.length=xs.length / fr*to
 | 0,z,f,xs,_,hn=>by
  have:xs=[]:=List.length_eq_zero_iff.1 (by omega)
  subst this
  simp [bat]
 | n+1,z,f,xs,hd,hn=>by
  by_cases hx:xs=[]
  ·subst hx
   rw [bat_nil]
   simp
  rw [bat_step n z f xs hx]
  obtain ⟨K,hK⟩:=hd
  have hpos:0<xs.length:=List.length_pos_iff.2 hx
  have hKp:0<K:=by
   rcases Nat.eq_zero_or_pos K with h | h
   ·subst h; omega
   exact h
  obtain ⟨j,hj⟩:∃ j,j=min K 10:=⟨_,rfl⟩
  have hm:min xs.length (10*fr)=j*fr:=by
   rw [hK,hj,Nat.mul_comm fr K,← Nat.mul_min_mul_right]
  have hj1:j≤K:=by omega
  have hj0:0<j:=by omega
  have hjf:0<j*fr:=Nat.mul_pos hj0 hfr
  have hjK:j*fr≤xs.length:=by rw [hK,Nat.mul_comm fr K]; exact Nat.mul_le_mul_right _ hj1
  have hdl:(xs.drop (j*fr)).length=(K - j)*fr:=by rw [List.length_drop,hK,Nat.mul_comm fr K,Nat.sub_mul]
  rw [hm]
  simp only [List.length_append,firL_length]
  rw [hcnt j (by omega),bat_len hfr hcnt n _ _ (xs.drop (j*fr)) (by rw [hdl]; exact ⟨K - j,Nat.mul_comm _ _⟩) (by rw [List.length_drop]; omega),hdl,Nat.mul_div_cancel _ hfr,hK,Nat.mul_div_cancel_left _ hfr,← Nat.add_mul]
  congr 1
  omega
theorem bat_le (hr:16384≤r) (hs:scale≤2) (hc:0<c):∀ (n:Nat) (z:σ) (f xs:List Int),(bat each scale c r bits at_ n z f xs).1.length≤xs.length*9
 | 0,z,f,xs=>by simp [bat]
 | n+1,z,f,xs=>by
  by_cases hx:xs=[]
  ·subst hx
   rw [bat_nil]
   simp
  rw [bat_step n z f xs hx]
  have hpos:0<xs.length:=List.length_pos_iff.2 hx
  obtain ⟨m,hm⟩:∃ m,m=min xs.length c:=⟨_,rfl⟩
  rw [← hm]
  have h1:=bat_le hr hs hc n (each z (xs.take m)).2 (((f++(each z (xs.take m)).1).drop (m*scale)).take f.length) (xs.drop m)
  rw [List.length_drop] at h1
  have h2:cntI (m*scale*65536) r≤m*8+1:=by
   unfold cntI
   have h3:m*scale*65536≤m*2*65536:=Nat.mul_le_mul_right _ (Nat.mul_le_mul_left _ hs)
   refine Nat.div_le_of_le_mul ?_
   have h4:r*(m*8+1)=m*8*r+r:=by rw [Nat.mul_add,Nat.mul_one,Nat.mul_comm]
   have h5:m*8*16384≤m*8*r:=Nat.mul_le_mul_left _ hr
   omega
  simp only [List.length_append,firL_length]
  omega
theorem bat_ne (hr:0<r) (hs:0<scale) (hc:0<c) {z:σ} {f xs:List Int} (hx:xs≠[]):(bat each scale c r bits at_ xs.length z f xs).1≠[]:=by
 obtain ⟨n,hn⟩:∃ n,xs.length=n+1:=⟨xs.length - 1,by have:=List.length_pos_iff.2 hx; omega⟩
 rw [hn,bat_step n z f xs hx]
 intro h
 have h1:=congrArg List.length h
 simp only [List.length_append,firL_length,List.length_nil] at h1
 have h2:0<cntI (min xs.length c*scale*65536) r:=by
  refine (cntI_lt hr).2 ?_
  rw [Nat.zero_mul]
  exact Nat.mul_pos (Nat.mul_pos (by have:=List.length_pos_iff.2 hx; omega) hs) (by decide)
 omega
theorem bat_S16:∀ (n:Nat) (z:σ) (f xs:List Int),∀ y∈(bat each scale c r bits at_ n z f xs).1,S16 y
 | 0,z,f,xs=>by simp [bat]
 | n+1,z,f,xs=>by
  by_cases hx:xs=[]
  ·subst hx
   rw [bat_nil]
   simp
  rw [bat_step n z f xs hx]
  intro y hy
  rcases List.mem_append.1 hy with h | h
  ·exact firL_S16 _ _ _ _ _ y h
  exact bat_S16 n _ _ _ y h
theorem bat_inv {V:Int→Prop} {J:σ → Prop} (hz:∀ z xs,J z→(∀ x∈xs,S16 x)→J (each z xs).2) (hV:∀ z xs,J z→(∀ x∈xs,S16 x) → ∀ y∈(each z xs).1,V y) (hl:∀ z xs,(each z xs).1.length=xs.length*scale) :
 ∀ (n:Nat) (z:σ) (f xs:List Int),J z→(∀ x∈f,V x)→(∀ x∈xs,S16 x) →
  J (bat each scale c r bits at_ n z f xs).2.1∧(bat each scale c r bits at_ n z f xs).2.2.length=f.length ∧ ∀ y∈(bat each scale c r bits at_ n z f xs).2.2,V y
 | 0,z,f,xs,h1,h2,_=>⟨h1,rfl,h2⟩
 | n+1,z,f,xs,h1,h2,h3=>by
  by_cases hx:xs=[]
  ·subst hx
   rw [bat_nil]
   exact ⟨h1,rfl,h2⟩
  rw [bat_step n z f xs hx]
  have ht:∀ x∈xs.take (min xs.length c),S16 x:=fun x hm=>h3 x (List.mem_of_mem_take hm)
  have hfl:(((f++(each z (xs.take (min xs.length c))).1).drop (min xs.length c*scale)).take f.length).length=f.length:=by
   rw [List.length_take,List.length_drop,List.length_append,hl,List.length_take,Nat.min_eq_left (Nat.min_le_left _ _)]
   omega
  have h:=bat_inv hz hV hl n (each z (xs.take (min xs.length c))).2 (((f++(each z (xs.take (min xs.length c))).1).drop (min xs.length c*scale)).take f.length) (xs.drop (min xs.length c)) (hz _ _ h1 ht) (fun x hm=>by
   rcases List.mem_append.1 (List.mem_of_mem_drop (List.mem_of_mem_take hm)) with h | h
   ·exact h2 x h
   exact hV _ _ h1 ht x h) (fun x hm=>h3 x (List.mem_of_mem_drop hm))
  rw [hfl] at h
  exact h
end
def ratN (fr to:Nat):Nat:=(fr*2 ^ upN fr to*65536+to - 1) / to
theorem ratOk {fr to:Nat} (hto:0<to) (h:rat0 fr to≤ratN fr to):RatOk fr to (ratN fr to) where
 lo:=h
 no:=fun r _ h2=>by
  unfold ratN at h2
  generalize fr*2 ^ upN fr to=q at *
  have h3:(r+1)*to≤q*65536+to - 1:=Nat.le_trans (Nat.mul_le_mul_right _ h2) (Nat.div_mul_le_self _ _)
  rw [Nat.add_mul,Nat.one_mul] at h3
  generalize r*to=p at *
  omega
 hi:=by
  unfold ratN
  generalize fr*2 ^ upN fr to=q at *
  have h3:q*65536≤(q*65536+to - 1) / to*to:=by
   have h4:=Nat.div_add_mod (q*65536+to - 1) to
   have h5:=Nat.mod_lt (q*65536+to - 1) hto
   rw [Nat.mul_comm] at h4
   generalize (q*65536+to - 1) / to*to=p at *
   omega
  generalize (q*65536+to - 1) / to*to=p at *
  omega
def Pair (fr to:Nat):Prop:=(fr=8∨fr=12∨fr=16)∧(to=8∨to=12∨to=16∨to=24∨to=48)
theorem ratP {fr to:Nat} (h:Pair fr to):RatOk fr to (ratN fr to)∧16384≤ratN fr to∧ratN fr to≤500000:=by
 have key:0<to∧rat0 fr to≤ratN fr to∧16384≤ratN fr to∧ratN fr to≤500000:=by
  obtain ⟨rfl | rfl | rfl,rfl | rfl | rfl | rfl | rfl⟩:=h <;> decide +kernel
 exact ⟨ratOk key.1 key.2.1,key.2.2⟩
theorem cntP {fr to:Nat} (h:Pair fr to) (hne:to≠fr) (hne2:to≠2*fr):∀ j,j<11→cntI (j*fr*2 ^ upN fr to*65536) (ratN fr to)=j*to:=by
 revert hne hne2
 obtain ⟨rfl | rfl | rfl,rfl | rfl | rfl | rfl | rfl⟩:=h <;> decide +kernel
def sU (fr to R dl:Nat):Sc:=⟨fnN fr to,10*fr,R,0,0,fr,to,dl,nilC,nilC,nilC,nilC,nilC⟩
theorem zr_len (n:Nat):(zr n).length=n:=List.length_replicate ..
theorem zB_id (z:Z6) (F G D:List Int) {sc:Sc} (h:sc.ren [0,1,2,3,4,5]=sc):(zB z (tlC F G D sc)).ren [0,1,2,3,4,5]=zB z (tlC F G D sc):=by rw [zB_ren,h]
theorem zB_id' (z:Z6) (F G D:List Int) {sc:Sc} (h:sc.ren [0,1,2,3,4]=sc):(zB z (tlC F G D sc)).ren [0,1,2,3,4]=zB z (tlC F G D sc):=by rw [zB_ren,h]
theorem xa2 (n:Nat):xa 2 5 n=slV n 5:=rfl
theorem xb3 (n:Nat):xb 3 5 n=slV n 5:=rfl
theorem pkS (w0:World) {fr R dl:Nat}:PK w0 0 (sU fr fr R dl) [] 1 (σ := Unit) (fun _=>Z6.zero) (fun _=>zr 36) (fun _=>zr 8) (fun _=>True) (fun t xs=>(xs,t)) where
 hq:=if_pos rfl
 q3:=by decide
 hL:=by decide
 hF:=fun _ _=>zr_len 36
 hG:=fun _ _=>zr_len 8
 inv:=fun _ _ _ _=>trivial
 out:=fun _ _ _ h=>h
 len:=fun _ xs _ h=>(Nat.div_mul_cancel h).symm
 cpy:=fun _ _ _=>rfl
 runX:=fun h=>absurd h (by decide)
 runN:=fun h=>absurd h (by decide)
theorem pk2 (w0:World) (hT:upTab w0) {fr R dl:Nat} (hfr:0<fr):PK w0 1 (sU fr (2*fr) R dl) [] 1 (σ := Z6) (fun z=>z) (fun _=>zr 36) (fun _=>zr 8) Z6.Ok dbl where
 hq:=by
  show (if 2*fr=fr then 0 else if 2*fr=2*fr then 1 else 2)=1
  rw [if_neg (by omega),if_pos rfl]
 q3:=by decide
 hL:=by decide
 hF:=fun _ _=>zr_len 36
 hG:=fun _ _=>zr_len 8
 inv:=fun _ _ h hx=>dbl_ok h hx
 out:=fun z xs _ _=>dbl_S16 z xs
 len:=fun z xs _ h=>by
  show (dbl z xs).1.length=xs.length / fr*(2*fr)
  rw [dbl_length,Nat.mul_left_comm,Nat.div_mul_cancel (show fr∣xs.length from h)]
 cpy:=fun h=>absurd h (by decide)
 runX:=fun _ {t l xs D ys out b io N c oo on oc Ni No} ht hl hA=>by
  obtain rfl:l=[]:=by
   rcases hl with ⟨_,h⟩ | ⟨h,_⟩
   ·exact h
   exact absurd rfl h
  have hc:=up2W w0 hT (b:=b) (io:=io) (n:=N) (c:=c) (oo:=oo) (on:=on) (oc:=oc) (tl:=tlC (zr 36) (zr 8) D (scP (sU fr (2*fr) R dl) nilC (.sli 2 1 0 Ni Ni) (.sli 1 1 0 No No) nilC nilC)) (ys:=ys) (out:=out) hA.hin.b (hA.hin.rd (zr_len 36) (zr_len 8) hA.hD _) hA.hN hA.hx ht (tlC_nat rfl)
   (by have:=hA.hon; rw [dbl_length,hA.hN] at this; exact this) (by have:=hA.hoo; rw [dbl_length,hA.hN] at this; exact this) (by have:=hA.hbN; omega)
  refine CallsA.liftKE (H0:=[zB t (tlC (zr 36) (zr 8) D (scP (sU fr (2*fr) R dl) nilC (.sli 2 1 0 Ni Ni) (.sli 1 1 0 No No) nilC nilC)),sB out,sB ys,.dead,.dead,.dead]) [0,1,2,3,4,5] [zB t (tlC (zr 36) (zr 8) D (scP (sU fr (2*fr) R dl) nilC (.sli 2 1 0 Ni Ni) (.sli 1 1 0 No No) nilC nilC)),sB out,sB ys,.dead,.dead,.dead] ⟨rfl,rfl,rfl,trivial⟩ rfl ⟨congrArg some (zB_id _ _ _ _ rfl).symm,rfl,rfl,rfl,rfl,rfl,lk 6 rfl rfl,lk 6 rfl rfl,lk 6 rfl rfl,trivial⟩ ?_ hc ?_
  ·rcases hA.hin.b with rfl | rfl <;> rfl
  rintro _ _ ⟨rfl,rfl⟩
  exact ⟨.t [],[zB (dbl t xs).2 (tlC (zr 36) (zr 8) D (scP (sU fr (2*fr) R dl) nilC (.sli 2 1 0 Ni Ni) (.sli 1 1 0 No No) nilC nilC)),sB (wr out oo (dbl t xs).1),sB ys,kB [],.dead,xB 1 []],rfl,⟨zB_id _ _ _ _ rfl,rfl,rfl,rfl,rfl,rfl,trivial⟩,rfl,[],rfl,rfl⟩
 runN:=fun h=>absurd h (by decide)
theorem batI_len {fr to R:Nat} (hfr:0<fr) (hcnt:∀ j,j<11→cntI (j*fr*2*65536) R=j*to) (z:Z6) (f xs:List Int) (h:fr∣xs.length):(batI (10*fr) R z f xs).1.length=xs.length / fr*to :=
 bat_len hfr hcnt _ z f xs h (Nat.le_refl _)
theorem batI_inv {bs R:Nat} {z:Z6} {f xs:List Int} (hz:z.Ok) (hf:∀ x∈f,S16 x) (hx:∀ x∈xs,S16 x):(batI bs R z f xs).2.1.Ok∧(batI bs R z f xs).2.2.length=f.length ∧ ∀ y∈(batI bs R z f xs).2.2,S16 y :=
 bat_inv (J:=Z6.Ok) (V:=S16) (fun _ _ h hx=>dbl_ok h hx) (fun z xs _ _=>dbl_S16 z xs) (fun z xs=>by rw [dbl_length,Nat.mul_comm]) _ z f xs hz hf hx
def IU (t:Z6 × List Int):Prop:=t.1.Ok∧t.2.length=8 ∧ ∀ x∈t.2,S16 x
theorem pkU (w0:World) (hT:upTab w0) (hT12:tab12 w0) {fr to R dl:Nat} (hfr:0<fr) (hfr2:fr≤16) (hto:fr<to) (hto2:to≠2*fr) (hR:0<R) (hR1:R≤500000) (hcnt:∀ j,j<11→cntI (j*fr*2*65536) R=j*to) :
 PK w0 2 (sU fr to R dl) [] (2*(10*fr)+8) (σ := Z6 × List Int) (fun t=>t.1) (fun _=>zr 36) (fun t=>t.2) IU (fun t xs=>batI (10*fr) R t.1 t.2 xs) where
 hq:=by
  show (if to=fr then 0 else if to=2*fr then 1 else 2)=2
  rw [if_neg (by omega),if_neg hto2]
 q3:=by decide
 hL:=by omega
 hF:=fun _ _=>zr_len 36
 hG:=fun _ h=>h.2.1
 inv:=fun t xs h hx=>by
  have h2:=batI_inv (bs:=10*fr) (R:=R) h.1 h.2.2 hx
  exact ⟨h2.1,by rw [h2.2.1]; exact h.2.1,h2.2.2⟩
 out:=fun t xs _ _=>bat_S16 _ _ _ _
 len:=fun t xs _ h=>batI_len hfr hcnt _ _ _ h
 cpy:=fun h=>absurd h (by decide)
 runX:=fun _ {t l xs D ys out b io N c oo on oc Ni No} ht hl hA=>by
  have hl:l.length=2*(10*fr)+8:=by
   rcases hl with ⟨h,_⟩ | ⟨_,h⟩
   ·exact absurd h (by decide)
   exact h
  have hc:=iirfirW w0 hT hT12 (b:=b) (io:=io) (c:=c) (oo:=oo) (on:=on) (oc:=oc) (bs:=10*fr) (R:=R) (Ni:=Ni) (No:=No) (s:=sU fr to R dl) (F:=zr 36) (ii:=some l) rfl rfl (zr_len 36) ht.2.1 hA.hD ht.2.2 ht.1 hA.hx hA.hN hA.hin hA.hc (by omega) (by omega) hR (by omega) (fun l' h=>by cases h; exact hl) hA.hon hA.hoc hA.hoo (by have:=hA.hbig; omega) (by have:=hA.hbN; omega)
  have e1:xa 2 5 l.length = .sli 5 1 0 l.length l.length:=by rw [xa2]; exact slV_pos (by omega)
  rw [e1,hl]
  rw [← hl] at hc
  refine CallsA.liftKE (H0:=[zB t.1 (tlC (zr 36) t.2 D (scI (sU fr to R dl) 2 1 Ni No (.sli 5 1 0 l.length l.length))),sB out,sB ys,.dead,.dead,sB l]) [0,1,2,3,4,5] [zB t.1 (tlC (zr 36) t.2 D (scI (sU fr to R dl) 2 1 Ni No (.sli 5 1 0 l.length l.length))),sB out,sB ys,.dead,.dead,sB l] ⟨by rw [hl]; rfl,rfl,rfl,rfl,trivial⟩ rfl ⟨congrArg some (zB_id _ _ _ _ rfl).symm,rfl,rfl,rfl,rfl,rfl,lk 6 rfl rfl,lk 6 rfl rfl,rfl,rfl,trivial⟩ ?_ hc ?_
  ·rcases hA.hin.b with rfl | rfl <;> rfl
  rintro _ _ ⟨rfl,l',hl',rfl⟩
  refine ⟨.t [],[zB (batI (10*fr) R t.1 t.2 xs).2.1 (tlC (zr 36) (batI (10*fr) R t.1 t.2 xs).2.2 D (scI (sU fr to R dl) 2 1 Ni No (.sli 5 1 0 l.length l.length))),sB (wr out oo (batI (10*fr) R t.1 t.2 xs).1),sB ys,kB [],.dead,sB l'],rfl,⟨zB_id _ _ _ _ rfl,rfl,rfl,rfl,rfl,rfl,trivial⟩,rfl,l',hl'.trans hl,?_⟩
  rw [hl]
  rfl
 runN:=fun _ {t xs D ys out b io N c oo on oc Ni No} ht hA=>by
  have hc:=iirfirW w0 hT hT12 (b:=b) (io:=io) (c:=c) (oo:=oo) (on:=on) (oc:=oc) (bs:=10*fr) (R:=R) (Ni:=Ni) (No:=No) (s:=sU fr to R dl) (F:=zr 36) (ii:=none) rfl rfl (zr_len 36) ht.2.1 hA.hD ht.2.2 ht.1 hA.hx hA.hN hA.hin hA.hc (by omega) (by omega) hR (by omega) (fun l' h=>by cases h) hA.hon hA.hoc hA.hoo (by have:=hA.hbig; omega) (by have:=hA.hbN; omega)
  have e1:xa 2 5 (2*(10*fr)+8) = .sli 5 1 0 (2*(10*fr)+8) (2*(10*fr)+8):=by rw [xa2]; exact slV_pos (by omega)
  rw [e1]
  refine CallsA.liftKE (H0:=[zB t.1 (tlC (zr 36) t.2 D (scI (sU fr to R dl) 2 1 Ni No nilC)),sB out,sB ys,.dead,.dead]) [0,1,2,3,4] [zB t.1 (tlC (zr 36) t.2 D (scI (sU fr to R dl) 2 1 Ni No nilC)),sB out,sB ys,.dead,.dead] ⟨rfl,rfl,rfl,trivial⟩ rfl ⟨congrArg some (zB_id' _ _ _ _ rfl).symm,rfl,rfl,rfl,rfl,rfl,lk 5 rfl rfl,lk 5 rfl rfl,trivial⟩ ?_ hc ?_
  ·rcases hA.hin.b with rfl | rfl <;> rfl
  rintro _ _ ⟨rfl,l',hl',rfl⟩
  exact ⟨.t [],[zB (batI (10*fr) R t.1 t.2 xs).2.1 (tlC (zr 36) (batI (10*fr) R t.1 t.2 xs).2.2 D (scI (sU fr to R dl) 2 1 Ni No (.sli 5 1 0 (2*(10*fr)+8) (2*(10*fr)+8)))),sB (wr out oo (batI (10*fr) R t.1 t.2 xs).1),sB ys,kB [],.dead,sB l'],rfl,⟨zB_id _ _ _ _ rfl,rfl,rfl,rfl,rfl,rfl,trivial⟩,rfl,l',hl',rfl⟩
theorem batD_len {kd fr to R:Nat} (hfr:0<fr) (hcnt:∀ j,j<11→cntI (j*fr*1*65536) R=j*to) (z:Int × Int) (f xs:List Int) (h:fr∣xs.length):(batD kd (atK kd) (10*fr) R z f xs).1.length=xs.length / fr*to :=
 bat_len hfr hcnt _ z f xs h (Nat.le_refl _)
theorem batD_inv {kd bs R:Nat} {z:Int × Int} {f xs:List Int} (hz:ArK kd z) (hf:∀ x∈f,iB 150000000 x) (hx:∀ x∈xs,S16 x):ArK kd (batD kd (atK kd) bs R z f xs).2.1∧(batD kd (atK kd) bs R z f xs).2.2.length=f.length ∧ ∀ y∈(batD kd (atK kd) bs R z f xs).2.2,iB 150000000 y :=
 bat_inv (J:=ArK kd) (V:=iB 150000000) (fun _ _ h hx=>arRun_ok h hx) (fun _ _ h hx=>arRun_bd h hx) (fun z xs=>by rw [arRun_len,Nat.mul_one]) _ z f xs hz hf hx
def KD (kd:Nat):Prop:=kd=34∨kd=23∨kd=12
def ID (kd:Nat) (t:(Int × Int) × List Int):Prop:=ArK kd t.1∧t.2.length=wK kd ∧ ∀ x∈t.2,iB 150000000 x
theorem dnAll (w0:World) {kd R:Nat} (hk:KD kd) (hR:0<R):DnOk w0 (wK kd) (pK kd) (coK kd).length R (atK kd) (coK kd)∧LocW (wK kd) (atK kd):=by
 rcases hk with rfl | rfl | rfl
 ·exact ⟨dnOk18 w0 (parts:=3) (.inr rfl) hR rfl (coK_S16 34),at18_loc 3 (coK 34)⟩
 ·exact ⟨dnOk18 w0 (parts:=2) (.inl rfl) hR rfl (coK_S16 23),at18_loc 2 (coK 23)⟩
 exact ⟨dnOk24 w0 hR rfl (coK_S16 12),at24_loc co12⟩
theorem pkD (w0:World) {kd fr to R dl:Nat} (hk:KD kd) (hfr:1<fr) (hfr2:fr≤16) (hR:0<R) (hR1:R≤500000) (hcnt:∀ j,j<11→cntI (j*fr*1*65536) R=j*to) :
 PK w0 3 (dnS kd fr to R dl) (coK kd) (10*fr+36) (σ := (Int × Int) × List Int) (fun t=>zA t.1) (fun t=>t.2++zr (36 - wK kd)) (fun _=>zr 8) (ID kd) (fun t xs=>batD kd (atK kd) (10*fr) R t.1 t.2 xs):=by
 have hw:wK kd≤36:=by unfold wK; split <;> omega
 have hw0:2<(coK kd).length:=by rcases hk with rfl | rfl | rfl <;> decide
 obtain ⟨hdn,hloc⟩:=dnAll w0 hk hR
 have hlen:∀ t:(Int × Int) × List Int,ID kd t→(t.2++zr (36 - wK kd)).length=36:=fun t h=>by rw [List.length_append,zr_len,h.2.1]; omega
 have htk:∀ t:(Int × Int) × List Int,ID kd t→(t.2++zr (36 - wK kd)).take (wK kd)=t.2:=fun t h=>List.take_left' h.2.1
 have hdr:∀ t:(Int × Int) × List Int,ID kd t→(t.2++zr (36 - wK kd)).drop (wK kd)=zr (36 - wK kd):=fun t h=>List.drop_left' h.2.1
 have hS:∀ t:(Int × Int) × List Int,ID kd t → ∀ x∈t.2++zr (36 - wK kd),iB 150000000 x:=by
  intro t h x hx
  rcases List.mem_append.1 hx with h1 | h1
  ·exact h.2.2 x h1
  rw [List.eq_of_mem_replicate h1]; exact iB_zero
 exact {
  hq:=rfl
  q3:=by decide
  hL:=by omega
  hF:=hlen
  hG:=fun _ _=>zr_len 8
  inv:=fun t xs h hx=>by
   have h2:=batD_inv (kd:=kd) (bs:=10*fr) (R:=R) h.1 h.2.2 hx
   exact ⟨h2.1,by rw [h2.2.1]; exact h.2.1,h2.2.2⟩
  out:=fun t xs _ _=>bat_S16 _ _ _ _
  len:=fun t xs _ h=>batD_len (by omega) hcnt _ _ _ h
  cpy:=fun h=>absurd h (by decide)
  runX:=fun _ {t l xs D ys out b io N c oo on oc Ni No} ht hl hA=>by
   have hl:l.length=10*fr+36:=by
    rcases hl with ⟨h,_⟩ | ⟨_,h⟩
    ·exact absurd h (by decide)
    exact h
   have h1:=htk t ht
   have hc:=downfirW w0 (b:=b) (io:=io) (c:=c) (oo:=oo) (on:=on) (oc:=oc) (bs:=10*fr) (R:=R) (w:=wK kd) (fr:=pK kd) (L:=(coK kd).length) (kd:=kd) (q:=fr) (Ni:=Ni) (No:=No) (s:=dnS kd fr to R dl) (F:=t.2++zr (36 - wK kd)) (G:=zr 8) (D:=D) (ys:=ys) (out:=out) (xs:=xs) (z:=t.1) (dn:=some l) hdn hloc rfl rfl rfl rfl (hlen t ht) (zr_len 8) hA.hD (hS t ht) ht.1 hA.hx hA.hN hA.hin hA.hc (by omega) (by omega) hR (by omega) hw hw0
    rfl (coK_taps kd).1 (coK_taps kd).2 hA.hdv ⟨10,Nat.mul_comm _ _⟩ hfr (fun l' h=>by cases h; exact hl) (by rw [h1]; exact hA.hon) hA.hoc (by rw [h1]; exact hA.hoo) (by have:=hA.hbig; omega) (by have:=hA.hbN; omega)
   rw [h1,hdr t ht] at hc
   have e1:xb 3 5 l.length = .sli 5 1 0 l.length l.length:=by rw [xb3]; exact slV_pos (by omega)
   rw [e1]
   refine hc.mono ?_
   rintro _ _ ⟨rfl,l',hl',rfl⟩
   refine ⟨rfl,l',hl'.trans hl.symm,?_⟩
   rw [hl]
   rfl
  runN:=fun _ {t xs D ys out b io N c oo on oc Ni No} ht hA=>by
   have h1:=htk t ht
   have hc:=downfirW w0 (b:=b) (io:=io) (c:=c) (oo:=oo) (on:=on) (oc:=oc) (bs:=10*fr) (R:=R) (w:=wK kd) (fr:=pK kd) (L:=(coK kd).length) (kd:=kd) (q:=fr) (Ni:=Ni) (No:=No) (s:=dnS kd fr to R dl) (F:=t.2++zr (36 - wK kd)) (G:=zr 8) (D:=D) (ys:=ys) (out:=out) (xs:=xs) (z:=t.1) (dn:=none) hdn hloc rfl rfl rfl rfl (hlen t ht) (zr_len 8) hA.hD (hS t ht) ht.1 hA.hx hA.hN hA.hin hA.hc (by omega) (by omega) hR (by omega) hw hw0
    rfl (coK_taps kd).1 (coK_taps kd).2 hA.hdv ⟨10,Nat.mul_comm _ _⟩ hfr (fun l' h=>by cases h) (by rw [h1]; exact hA.hon) hA.hoc (by rw [h1]; exact hA.hoo) (by have:=hA.hbig; omega) (by have:=hA.hbN; omega)
   rw [h1,hdr t ht] at hc
   have e1:xb 3 5 (10*fr+36) = .sli 5 1 0 (10*fr+36) (10*fr+36):=by rw [xb3]; exact slV_pos (by omega)
   rw [e1]
   refine hc.mono ?_
   rintro _ _ ⟨rfl,l',hl',rfl⟩
   exact ⟨rfl,l',hl',rfl⟩ }
theorem roS (w0:World) {fr dl R:Nat}:RunOk w0 ⟨fr,fr,dl,R,fr,0⟩ (σ := Unit) (fun _=>Z6.zero) (fun _=>[]) (fun _=>True) (fun t xs=>(xs,t)) where
 run:=fun _ ys xs _ hin _ _ hl=>sRunS w0 hin rfl (show xs.length≤1000000 by omega)
 inv:=fun _ _ _ _=>trivial
 len:=fun _ xs _ h=>show xs.length≤10000000 by omega
 ne:=fun _ _ h=>h
theorem ro2 (w0:World) {fr dl R:Nat} (hfr:0<fr) (hfr2:fr≤16):RunOk w0 ⟨fr,2*fr,dl,R,fr,0⟩ (σ := Z6) (fun z=>z) (fun _=>[]) Z6.Ok dbl where
 run:=fun _ ys xs _ hin hx hz hl=>sRun2x w0 hin hx hz rfl (by show fr≤100; omega) hfr (by omega)
 inv:=fun _ _ h hx=>dbl_ok h hx
 len:=fun _ _ _ h=>by rw [dbl_length]; omega
 ne:=fun z xs h h2=>by
  have h3:=dbl_length z xs
  rw [h2] at h3
  have h4:=List.length_pos_iff.2 h
  simp at h3
  omega
theorem roU (w0:World) {fr to dl R:Nat} (hfr:fr=8∨fr=12∨fr=16) (hto:fr<to) (hto2:to≠2*fr) (hto3:to≤48) (hR:16384≤R) (hR1:R≤500000):RunOk w0 ⟨fr,to,dl,R,fr,8⟩ (σ := Z6 × List Int) (fun t=>t.1) (fun t=>t.2) IU (fun t xs=>batI (10*fr) R t.1 t.2 xs) where
 run:=fun _ ys xs t hin hx ht hl=>sRunU w0 hin hx ht.1 hfr hto hto2 hto3 (by show 0<R; omega) hR1 ht.2.1 rfl ht.2.2 (by omega) (Nat.le_trans (bat_le hR (Nat.le_refl _) (by show 0<10*fr; omega) _ _ _ _) (by omega))
 inv:=fun t xs h hx=>by
  have h2:=batI_inv (bs:=10*fr) (R:=R) h.1 h.2.2 hx
  exact ⟨h2.1,by rw [h2.2.1]; exact h.2.1,h2.2.2⟩
 len:=fun t xs _ h=>Nat.le_trans (bat_le hR (Nat.le_refl _) (by omega) _ _ _ _) (by omega)
 ne:=fun t xs h=>bat_ne (by omega) (by decide) (by omega) h
theorem roD (w0:World) {kd fr to dl R:Nat} (hk:DnK kd fr to) (hR:16384≤R) (hR1:R≤500000):RunOk w0 ⟨fr,to,dl,R,fr,wK kd⟩ (σ := (Int × Int) × List Int) (fun t=>zA t.1) (fun t=>t.2) (ID kd) (fun t xs=>batD kd (atK kd) (10*fr) R t.1 t.2 xs) where
 run:=fun _ ys xs t hin hx ht hl=>sRunD w0 hin hx ht.1 (by show fr=8∨fr=12∨fr=16; unfold DnK at hk; omega) hk.lt (by show KdOk _ _; unfold KdOk; unfold DnK at hk; simp only; omega) (by show 0<R; omega) hR1 ht.2.1 rfl ht.2.2 (by omega) (Nat.le_trans (bat_le hR (by decide) (by show 0<10*fr; unfold DnK at hk; omega) _ _ _ _) (by omega))
 inv:=fun t xs h hx=>by
  have h2:=batD_inv (kd:=kd) (bs:=10*fr) (R:=R) h.1 h.2.2 hx
  exact ⟨h2.1,by rw [h2.2.1]; exact h.2.1,h2.2.2⟩
 len:=fun t xs _ h=>Nat.le_trans (bat_le hR (by decide) (by unfold DnK at hk; omega) _ _ _ _) (by omega)
 ne:=fun t xs h=>bat_ne (by omega) (by decide) (by unfold DnK at hk; omega) h
def outP (fr to dl:Nat) (xss:List (List Int)):List (List Int) :=
 if to=fr then pieces (fun (t:Unit) xs=>(xs,t)) fr dl () (zr fr) xss
 else if to=2*fr then pieces dbl fr dl Z6.zero (zr fr) xss
 else if fr<to then pieces (fun (t:Z6 × List Int) xs=>batI (10*fr) (ratN fr to) t.1 t.2 xs) fr dl (Z6.zero,zr 8) (zr fr) xss
 else pieces (fun (t:(Int × Int) × List Int) xs=>batD (if 4*to=3*fr then 34 else if 3*to=2*fr then 23 else 12) (atK (if 4*to=3*fr then 34 else if 3*to=2*fr then 23 else 12)) (10*fr) (ratN fr to) t.1 t.2 xs) fr dl ((0,0),zr (wK (if 4*to=3*fr then 34 else if 3*to=2*fr then 23 else 12))) (zr fr) xss
def dlP (fr to:Nat):Nat:=(dlF fr to 15).toNat
theorem dlOk {fr to:Nat} (h:Pair fr to):dlF fr to 15=((dlP fr to:Nat):Int)∧dlP fr to<fr:=by
 obtain ⟨rfl | rfl | rfl,rfl | rfl | rfl | rfl | rfl⟩:=h <;> decide +kernel
theorem kdOf {fr to:Nat} (h:Pair fr to) (hlt:to<fr):∃ kd,kd=(if 4*to=3*fr then 34 else if 3*to=2*fr then 23 else 12)∧DnK kd fr to∧ordN fr to=wK kd:=by
 refine ⟨_,rfl,?_⟩
 obtain ⟨rfl | rfl | rfl,rfl | rfl | rfl | rfl | rfl⟩:=h <;> first | exact absurd hlt (by decide) | exact ⟨by unfold DnK; decide,by decide⟩
theorem zr_S16 {n:Nat}:∀ x∈zr n,S16 x:=fun x hx=>by rw [List.eq_of_mem_replicate hx]; exact S16_zero
theorem sResP (w0:World) {fr to c:Nat} {A:Option Addr} {ys:List (Value × List Int)} (hp:Pair fr to) (hv:srowsAt w0 A ys) (hok:∀ x∈ys,x.2≠[]∧x.2.length % fr=0∧x.2.length≤100*fr) (hn:ys.length≤1000) :
 CallsA Tryz.prog w0 6 [.c (.val (.slice A ys.length c)),.c (.val (.int .i64 ((fr*1000:Nat):Int))),.c (.val (.int .i64 ((to*1000:Nat):Int)))] []
  fun r H=>r = .t [.c (rwsV ys.length),.c (.val (.int .i64 ((1:Nat):Int)))]∧H=rwsH (outP fr to (dlP fr to) (ys.map (·.2))):=by
 obtain ⟨hR,hR1,hR2⟩:=ratP hp
 obtain ⟨hd,hdl⟩:=dlOk hp
 have hfr:=hp.1
 have hto:to≤48∧0<to:=by have:=hp.2; omega
 unfold outP
 by_cases h1:to=fr
 ·subst h1
  rw [if_pos rfl]
  exact sResW w0 (roS w0) (by unfold ordN; rw [if_pos rfl]) rfl (by unfold ordN; rw [if_pos rfl]; rfl) trivial hfr hto.1 hto.2 hd hdl (by omega) hR hv hok hn
 rw [if_neg h1]
 by_cases h2:to=2*fr
 ·rw [if_pos h2]
  subst h2
  have ho:ordN fr (2*fr)=0:=by unfold ordN; rw [if_neg h1,if_pos rfl]
  exact sResW w0 (t0:=Z6.zero) (ro2 w0 (fr:=fr) (dl:=dlP fr (2*fr)) (R:=ratN fr (2*fr)) (by omega) (by omega)) (by rw [ho]) rfl (by rw [ho]; rfl) Z6.zero_ok hfr hto.1 hto.2 hd hdl (by omega) hR hv hok hn
 rw [if_neg h2]
 by_cases h3:fr<to
 ·rw [if_pos h3]
  have ho:ordN fr to=8:=by unfold ordN; rw [if_neg h1,if_neg h2,if_pos h3]
  exact sResW w0 (t0:=(Z6.zero,zr 8)) (roU w0 hfr h3 h2 hto.1 hR1 hR2) (by rw [ho]) rfl (by rw [ho]; rfl) ⟨Z6.zero_ok,rfl,zr_S16⟩ hfr hto.1 hto.2 hd hdl (by omega) hR hv hok hn
 rw [if_neg h3]
 obtain ⟨kd,hkd,hK,ho⟩:=kdOf hp (by omega)
 rw [← hkd]
 exact sResW w0 (t0:=((0,0),zr (wK kd))) (roD w0 hK hR1 hR2) (by rw [ho]) rfl (by rw [ho]; rfl) ⟨ar_zero kd,zr_len _,fun x hx=>by rw [List.eq_of_mem_replicate hx]; exact iB_zero⟩ hfr hto.1 hto.2 hd hdl (by omega) hR hv hok hn
theorem idOf {fr to:Nat} (h:Pair fr to):∃ i k,InId fr i∧OutId to k∧dyL.getD (5*i+k) 0=dlP fr to:=by
 obtain ⟨rfl | rfl | rfl,rfl | rfl | rfl | rfl | rfl⟩:=h
 ·exact ⟨0,0,.inl ⟨rfl,rfl⟩,.inl ⟨rfl,rfl⟩,by decide +kernel⟩
 ·exact ⟨0,1,.inl ⟨rfl,rfl⟩,.inr (.inl ⟨rfl,rfl⟩),by decide +kernel⟩
 ·exact ⟨0,2,.inl ⟨rfl,rfl⟩,.inr (.inr (.inl ⟨rfl,rfl⟩)),by decide +kernel⟩
 ·exact ⟨0,3,.inl ⟨rfl,rfl⟩,.inr (.inr (.inr (.inl ⟨rfl,rfl⟩))),by decide +kernel⟩
 ·exact ⟨0,4,.inl ⟨rfl,rfl⟩,.inr (.inr (.inr (.inr ⟨rfl,rfl⟩))),by decide +kernel⟩
 ·exact ⟨1,0,.inr (.inl ⟨rfl,rfl⟩),.inl ⟨rfl,rfl⟩,by decide +kernel⟩
 ·exact ⟨1,1,.inr (.inl ⟨rfl,rfl⟩),.inr (.inl ⟨rfl,rfl⟩),by decide +kernel⟩
 ·exact ⟨1,2,.inr (.inl ⟨rfl,rfl⟩),.inr (.inr (.inl ⟨rfl,rfl⟩)),by decide +kernel⟩
 ·exact ⟨1,3,.inr (.inl ⟨rfl,rfl⟩),.inr (.inr (.inr (.inl ⟨rfl,rfl⟩))),by decide +kernel⟩
 ·exact ⟨1,4,.inr (.inl ⟨rfl,rfl⟩),.inr (.inr (.inr (.inr ⟨rfl,rfl⟩))),by decide +kernel⟩
 ·exact ⟨2,0,.inr (.inr ⟨rfl,rfl⟩),.inl ⟨rfl,rfl⟩,by decide +kernel⟩
 ·exact ⟨2,1,.inr (.inr ⟨rfl,rfl⟩),.inr (.inl ⟨rfl,rfl⟩),by decide +kernel⟩
 ·exact ⟨2,2,.inr (.inr ⟨rfl,rfl⟩),.inr (.inr (.inl ⟨rfl,rfl⟩)),by decide +kernel⟩
 ·exact ⟨2,3,.inr (.inr ⟨rfl,rfl⟩),.inr (.inr (.inr (.inl ⟨rfl,rfl⟩))),by decide +kernel⟩
 exact ⟨2,4,.inr (.inr ⟨rfl,rfl⟩),.inr (.inr (.inr (.inr ⟨rfl,rfl⟩))),by decide +kernel⟩
theorem nilI (w0:World) (H:List Blk) (T:TypeId) (k:IntKind):Ghost w0 H (H++[.vec true T (encI k) [] 1 []]):=Ghost.nilV w0 H true T (encI k) [] 1 (by decide) (fun _=>rfl)
theorem dly0 {fr:Nat} (h:fr≤48):dly (zr fr)=zr 48:=by
 unfold dly zr
 rw [List.length_replicate,List.replicate_append_replicate]
 congr 1
 omega
theorem initU (w0:World) (hT:dlyTab w0) {fr to q:Nat} (hq:q≠3) (hp:Pair fr to) (hup:fr≤to):CallsA Tryz.prog w0 13 [.c (.ptr 0 0),.c (.val (.int .i64 ((fr*1000:Nat):Int))),.c (.val (.int .i64 ((to*1000:Nat):Int)))] [r0B z0S]
 fun r H=>r = .o (.c (.val .nilIface))∧H=[rP Z6.zero (zr 36) (zr 8) (dly (zr fr)) (sU fr to (ratN fr to) (dlP fr to)) (if q=3 then .vec 1 ([]:List Int).length else nilC) nilC nilC nilC nilC,kB [],sB [],sB [],xB q []]:=by
 obtain ⟨hR,hR1,hR2⟩:=ratP hp
 obtain ⟨i,k,hi,hk,hd⟩:=idOf hp
 have h:=rInitU w0 hT hi hk hup hd (by omega) hR
 refine h.ghostR fun r H hr => ?_
 obtain ⟨rfl,rfl⟩:=hr
 refine ⟨_,(((nilI w0 _ (cTy 0) .i16).trans (nilI w0 _ 29 .i16)).trans (nilI w0 _ 29 .i16)).trans (nilI w0 _ (if q=3 then 21 else 29) (if q=3 then .i32 else .i16)),rfl,?_⟩
 rw [show (if q=3 then CV.vec 1 ([]:List Int).length else nilC)=nilC from if_neg hq,dly0 (by have:=hp.1; omega)]
 rfl
theorem initD (w0:World) (hT:dlyTab w0) (hC:coTab w0) {fr to kd:Nat} (hp:Pair fr to) (hkd:DnK kd fr to):CallsA Tryz.prog w0 13 [.c (.ptr 0 0),.c (.val (.int .i64 ((fr*1000:Nat):Int))),.c (.val (.int .i64 ((to*1000:Nat):Int)))] [r0B z0S]
 fun r H=>r = .o (.c (.val .nilIface))∧H=[rP Z6.zero (zr 36) (zr 8) (dly (zr fr)) (dnS kd fr to (ratN fr to) (dlP fr to)) (if 3=3 then .vec 1 (coK kd).length else nilC) nilC nilC nilC nilC,kB (coK kd),sB [],sB [],xB 3 []]:=by
 obtain ⟨hR,hR1,hR2⟩:=ratP hp
 obtain ⟨i,k,hi,hk,hd⟩:=idOf hp
 have h:=rInitD w0 hT hC hi hk hkd hd (by omega) hR
 refine h.ghostR fun r H hr => ?_
 obtain ⟨rfl,rfl⟩:=hr
 refine ⟨_,((nilI w0 _ 29 .i16).trans (nilI w0 _ 29 .i16)).trans (nilI w0 _ 21 .i32),rfl,?_⟩
 rw [dly0 (by have:=hp.1; omega)]
 rfl
theorem iResP (w0:World) (hT:dlyTab w0) (hC:coTab w0) (hU:upTab w0) (hT12:tab12 w0) {fr to c:Nat} {A:Option Addr} {ys:List (Value × List Int)} (hp:Pair fr to) (hv:srowsAt w0 A ys) (hok:∀ x∈ys,x.2≠[]∧x.2.length % fr=0∧x.2.length≤100*fr) (hn:ys.length≤1000) :
 CallsA Tryz.prog w0 7 [.c (.val (.slice A ys.length c)),.c (.val (.int .i64 ((fr*1000:Nat):Int))),.c (.val (.int .i64 ((to*1000:Nat):Int)))] []
  fun r H=>r = .t [.c (.vec 0 ys.length),.c (.val (.int .i64 ((0:Nat):Int)))]∧H=[oB 1 (outP fr to (dlP fr to) (ys.map (·.2))),famS (outP fr to (dlP fr to) (ys.map (·.2)))]:=by
 obtain ⟨hR,hR1,hR2⟩:=ratP hp
 obtain ⟨hd,hdl⟩:=dlOk hp
 have hfr:=hp.1
 have hto:to≤48∧0<to:=by have:=hp.2; omega
 unfold outP
 by_cases h1:to=fr
 ·subst h1
  rw [if_pos rfl]
  exact iResW w0 (t0:=()) (pkS w0) (initU w0 hT (q:=0) (by decide) hp (Nat.le_refl _)) trivial rfl rfl hfr hto.1 hto.2 hdl hv hok hn
 rw [if_neg h1]
 by_cases h2:to=2*fr
 ·rw [if_pos h2]
  subst h2
  exact iResW w0 (t0:=Z6.zero) (pk2 w0 hU (by omega)) (initU w0 hT (q:=1) (by decide) hp (by omega)) Z6.zero_ok rfl rfl hfr hto.1 hto.2 hdl hv hok hn
 rw [if_neg h2]
 by_cases h3:fr<to
 ·rw [if_pos h3]
  have hcnt:=cntP hp h1 h2
  have hu:upN fr to=1:=by unfold upN; rw [if_neg h1,if_neg h2,if_pos h3]
  rw [hu] at hcnt
  exact iResW w0 (t0:=(Z6.zero,zr 8)) (pkU w0 hU hT12 (by omega) (by omega) h3 h2 (by omega) hR2 hcnt) (initU w0 hT (q:=2) (by decide) hp (by omega)) ⟨Z6.zero_ok,rfl,zr_S16⟩ rfl rfl hfr hto.1 hto.2 hdl hv hok hn
 rw [if_neg h3]
 obtain ⟨kd,hkd,hK,ho⟩:=kdOf hp (by omega)
 rw [← hkd]
 have hcnt:=cntP hp h1 h2
 have hu:upN fr to=0:=by unfold upN; rw [if_neg h1,if_neg h2,if_neg h3]
 rw [hu] at hcnt
 have hKD:KD kd:=by unfold KD; unfold DnK at hK; omega
 have hw:zr (wK kd)++zr (36 - wK kd)=zr 36:=by
  unfold zr
  rw [List.replicate_append_replicate]
  congr 1
  unfold wK
  split <;> omega
 refine iResW w0 (t0:=((0,0),zr (wK kd))) (pkD w0 hKD (by omega) (by omega) (by omega) hR2 hcnt) ?_ ⟨ar_zero kd,zr_len _,fun x hx=>by rw [List.eq_of_mem_replicate hx]; exact iB_zero⟩ rfl rfl hfr hto.1 hto.2 hdl hv hok hn
 simp only [hw]
 exact initD w0 hT hC hp hK
theorem c28_:compF Tryz.prog 28=some (.mk (sr [gg 4 (.mov (.k (.string (ByteArray.mk #[]))))] (sr [gm 5 0,gm 6 1,gg 7 (.call 73 [(.t 5),(.t 6)]),gm 4 7] .ret)) 2 [(.t 4)]):=by kernel_rfl
theorem c73_:compF Tryz.prog 73=some (.mk (sr [gg 4 (.mov (.k (.string (ByteArray.mk #[]))))] (.cut (sr [gm 10 1,gg 11 (.bin .eql (.t 10) (xk .i64 10))] (.cond (.t 11) (.cut (sr [gm 12 0,gg 13 (.bin .leq (xk .i64 0) (.t 12)),gm 14 13,gq 15 14 true (.mov (.t 0)),gq 16 14 true (.bin .lss (.t 15) (xk .i64 100)),gg 17 (.pick (.t 14) (.t 16) (.k (.bool false)))] (.cond (.t 17) (sr [gm 18 0,gg 19 (.call 96 [(.t 18)]),gm 4 19] .ret) .skip)) (sr [gg 5 (.ala 142 [(.int .u8 ((0:Nat):Int)),(.int .u8 ((0:Nat):Int)),(.int .u8 ((0:Nat):Int)),(.int .u8 ((0:Nat):Int)),(.int .u8 ((0:Nat):Int)),(.int .u8 ((0:Nat):Int)),(.int .u8 ((0:Nat):Int)),(.int .u8 ((0:Nat):Int)),(.int .u8 ((0:Nat):Int)),(.int .u8 ((0:Nat):Int)),(.int .u8 ((0:Nat):Int)),(.int .u8 ((0:Nat):Int)),(.int .u8 ((0:Nat):Int)),(.int .u8 ((0:Nat):Int)),(.int .u8 ((0:Nat):Int)),(.int .u8 ((0:Nat):Int)),(.int .u8 ((0:Nat):Int)),(.int .u8 ((0:Nat):Int)),(.int .u8 ((0:Nat):Int)),(.int .u8 ((0:Nat):Int)),(.int .u8 ((0:Nat):Int)),(.int .u8 ((0:Nat):Int)),(.int .u8 ((0:Nat):Int)),(.int .u8 ((0:Nat):Int))])] (sr [gm 20 0,gg 21 (.cvi .u64 (.t 20)),gm 6 21] (.cut (sr [gm 22 0,gg 23 (.bin .lss (.t 22) (xk .i64 0))] (.cond (.t 23) (.reg [gm 24 6,gg 25 (.un .neg (.t 24)),gm 6 25]) .skip)) (sr [gm 26 6,gg 27 (.call 97 [(.t 26)]),gm 7 27] (sr [gm 28 7,gg 29 (.bin .add (xk .i64 1) (.t 28)),gg 30 (.sla (.t 5) (some (xk .i64 1)) (some (.t 29)) 1 24),gm 31 6,gg 32 (.call 98 [(.t 30),(.t 31)])] (.cut (sr [gm 33 0,gg 34 (.bin .lss (.t 33) (xk .i64 0))] (.cond (.t 34) (sr [gg 35 (.iaa (.t 5) (xk .i64 0) 1 24),(G.mk none none (.st (.t 35) (xk .u8 45) 1))] (sr [gm 36 7,gg 37 (.bin .add (xk .i64 1) (.t 36)),gg 38 (.sll (.t 5) (some (.t 37)) 1 24),gg 39 (.b2s (.t 38)),gm 4 39] .ret)) .skip)) (sr [gm 40 7,gg 41 (.bin .add (xk .i64 1) (.t 40)),gg 42 (.sla (.t 5) (some (xk .i64 1)) (some (.t 41)) 1 24),gg 43 (.b2s (.t 42)),gm 4 43] .ret)))))))) .skip)) (sr [gm 45 0,gg 46 (.cvi .u64 (.t 45)),gm 47 1,gm 48 0,gg 49 (.bin .lss (.t 48) (xk .i64 0)),gg 50 (.call 99 [(.k (.slice none 0 0)),(.t 46),(.t 47),(.t 49),(.k (.bool false))]),gm 44 50,gg 51 (.ext (.t 44) 0),gg 52 (.ext (.t 44) 1),gm 8 51,gm 9 52] (sr [gm 53 9,gm 4 53] .ret)))) 2 [(.t 4)]):=by kernel_rfl
theorem c96_:compF Tryz.prog 96=some (.mk (sr [gg 2 (.mov (.k (.string (ByteArray.mk #[]))))] (.cut (sr [gm 3 0,gg 4 (.bin .lss (.t 3) (xk .i64 10))] (.cond (.t 4) (sr [gm 5 0,gm 6 0,gg 7 (.bin .add (.t 6) (xk .i64 1)),gg 8 (.sls (.k (.string (ByteArray.mk #[48,49,50,51,52,53,54,55,56,57,97,98,99,100,101,102,103,104,105,106,107,108,109,110,111,112,113,114,115,116,117,118,119,120,121,122]))) (some (.t 5)) (some (.t 7))),gm 2 8] .ret) .skip)) (sr [gm 9 0,gg 10 (.bin .mul (.t 9) (xk .i64 2)),gm 11 0,gg 12 (.bin .mul (.t 11) (xk .i64 2)),gg 13 (.bin .add (.t 12) (xk .i64 2)),gg 14 (.sls (.k (.string (ByteArray.mk #[48,48,48,49,48,50,48,51,48,52,48,53,48,54,48,55,48,56,48,57,49,48,49,49,49,50,49,51,49,52,49,53,49,54,49,55,49,56,49,57,50,48,50,49,50,50,50,51,50,52,50,53,50,54,50,55,50,56,50,57,51,48,51,49,51,50,51,51,51,52,51,53,51,54,51,55,51,56,51,57,52,48,52,49,52,50,52,51,52,52,52,53,52,54,52,55,52,56,52,57,53,48,53,49,53,50,53,51,53,52,53,53,53,54,53,55,53,56,53,57,54,48,54,49,54,50,54,51,54,52,54,53,54,54,54,55,54,56,54,57,55,48,55,49,55,50,55,51,55,52,55,53,55,54,55,55,55,56,55,57,56,48,56,49,56,50,56,51,56,52,56,53,56,54,56,55,56,56,56,57,57,48,57,49,57,50,57,51,57,52,57,53,57,54,57,55,57,56,57,57]))) (some (.t 10)) (some (.t 13))),gm 2 14] .ret))) 1 [(.t 2)]):=by kernel_rfl
theorem c97_:compF Tryz.prog 97=some (.mk (sr [gg 2 (.mov (xk .i64 0))] (sr [gm 4 0,gg 5 (.call 103 [(.t 4)]),gg 6 (.call 102 [(.t 5)]),gm 3 6] (sr [gm 7 3,gm 8 0,gm 9 3,gg 10 (.iaa (.k (.pointer (some (Addr.mk 16 0 none)))) (.t 9) 1 20),gg 11 (.ld (.t 10) none),gg 12 (.bin .geq (.t 8) (.t 11)),gg 13 (.call 104 [(.t 12)]),gg 14 (.bin .add (.t 7) (.t 13)),gm 2 14] .ret))) 1 [(.t 2)]):=by kernel_rfl
theorem c98_:compF Tryz.prog 98=some (.mk (sr [gm 17 0,gg 18 (.len false (.t 17)),gm 4 18] (.cut (.block 0 (.loop (.seq (sr [gm 19 4,gg 20 (.bin .geq (.t 19) (xk .i64 8))] (.cond (.t 20) .skip (.exit 0))) (.block 1 (sr [gm 21 1,gg 22 (.bik .rem .u64 (.t 21) 100000000),gg 23 (.cvi .u32 (.t 22)),gm 5 23] (sr [gm 24 1,gg 25 (.bik .quo .u64 (.t 24) 100000000),gm 1 25] (sr [gm 26 5,gg 27 (.bik .quo .u32 (.t 26) 10000),gm 28 5,gg 29 (.bik .rem .u32 (.t 28) 10000),gm 6 27,gm 7 29] (sr [gm 30 7,gg 31 (.bik .quo .u32 (.t 30) 100),gg 32 (.bin .mul (.t 31) (xk .u32 2)),gm 33 7,gg 34 (.bik .rem .u32 (.t 33) 100),gg 35 (.bin .mul (.t 34) (xk .u32 2)),gm 8 32,gm 9 35] (sr [gm 36 6,gg 37 (.bik .quo .u32 (.t 36) 100),gg 38 (.bin .mul (.t 37) (xk .u32 2)),gm 39 6,gg 40 (.bik .rem .u32 (.t 39) 100),gg 41 (.bin .mul (.t 40) (xk .u32 2)),gm 10 38,gm 11 41] (.seq (.drw [(.mk (gm 42 0) 0 true []),(.mk (gm 43 4) 1 true []),(.mk (gg 44 (.bin .sub (.t 43) (xk .i64 1))) 2 true []),(.mk (gm 45 0) 3 true []),(.mk (gm 46 4) 4 true []),(.mk (gg 47 (.bin .sub (.t 46) (xk .i64 2))) 5 true []),(.mk (gm 48 9) 6 true []),(.mk (gg 49 (.bin .add (.t 48) (xk .u32 1))) 7 true []),(.mk (gg 50 (.si (.k (.string (ByteArray.mk #[48,48,48,49,48,50,48,51,48,52,48,53,48,54,48,55,48,56,48,57,49,48,49,49,49,50,49,51,49,52,49,53,49,54,49,55,49,56,49,57,50,48,50,49,50,50,50,51,50,52,50,53,50,54,50,55,50,56,50,57,51,48,51,49,51,50,51,51,51,52,51,53,51,54,51,55,51,56,51,57,52,48,52,49,52,50,52,51,52,52,52,53,52,54,52,55,52,56,52,57,53,48,53,49,53,50,53,51,53,52,53,53,53,54,53,55,53,56,53,57,54,48,54,49,54,50,54,51,54,52,54,53,54,54,54,55,54,56,54,57,55,48,55,49,55,50,55,51,55,52,55,53,55,54,55,55,55,56,55,57,56,48,56,49,56,50,56,51,56,52,56,53,56,54,56,55,56,56,56,57,57,48,57,49,57,50,57,51,57,52,57,53,57,54,57,55,57,56,57,57]))) (.t 49))) 8 true []),(.mk (gm 51 9) 9 true []),(.mk (gg 52 (.si (.k (.string (ByteArray.mk #[48,48,48,49,48,50,48,51,48,52,48,53,48,54,48,55,48,56,48,57,49,48,49,49,49,50,49,51,49,52,49,53,49,54,49,55,49,56,49,57,50,48,50,49,50,50,50,51,50,52,50,53,50,54,50,55,50,56,50,57,51,48,51,49,51,50,51,51,51,52,51,53,51,54,51,55,51,56,51,57,52,48,52,49,52,50,52,51,52,52,52,53,52,54,52,55,52,56,52,57,53,48,53,49,53,50,53,51,53,52,53,53,53,54,53,55,53,56,53,57,54,48,54,49,54,50,54,51,54,52,54,53,54,54,54,55,54,56,54,57,55,48,55,49,55,50,55,51,55,52,55,53,55,54,55,55,55,56,55,57,56,48,56,49,56,50,56,51,56,52,56,53,56,54,56,55,56,56,56,57,57,48,57,49,57,50,57,51,57,52,57,53,57,54,57,55,57,56,57,57]))) (.t 51))) 10 true []),(.mk (gg 53 (.ia (.t 42) (.t 44) 1)) 11 true []),(.mk (G.mk none none (.st (.t 53) (.t 50) 1)) 12 false []),(.mk (gg 54 (.ia (.t 45) (.t 47) 1)) 13 true []),(.mk (G.mk none none (.st (.t 54) (.t 52) 1)) 14 false [])]) (.seq (.drw [(.mk (gm 55 0) 0 true []),(.mk (gm 56 4) 1 true []),(.mk (gg 57 (.bin .sub (.t 56) (xk .i64 3))) 2 true []),(.mk (gm 58 0) 3 true []),(.mk (gm 59 4) 4 true []),(.mk (gg 60 (.bin .sub (.t 59) (xk .i64 4))) 5 true []),(.mk (gm 61 8) 6 true []),(.mk (gg 62 (.bin .add (.t 61) (xk .u32 1))) 7 true []),(.mk (gg 63 (.si (.k (.string (ByteArray.mk #[48,48,48,49,48,50,48,51,48,52,48,53,48,54,48,55,48,56,48,57,49,48,49,49,49,50,49,51,49,52,49,53,49,54,49,55,49,56,49,57,50,48,50,49,50,50,50,51,50,52,50,53,50,54,50,55,50,56,50,57,51,48,51,49,51,50,51,51,51,52,51,53,51,54,51,55,51,56,51,57,52,48,52,49,52,50,52,51,52,52,52,53,52,54,52,55,52,56,52,57,53,48,53,49,53,50,53,51,53,52,53,53,53,54,53,55,53,56,53,57,54,48,54,49,54,50,54,51,54,52,54,53,54,54,54,55,54,56,54,57,55,48,55,49,55,50,55,51,55,52,55,53,55,54,55,55,55,56,55,57,56,48,56,49,56,50,56,51,56,52,56,53,56,54,56,55,56,56,56,57,57,48,57,49,57,50,57,51,57,52,57,53,57,54,57,55,57,56,57,57]))) (.t 62))) 8 true []),(.mk (gm 64 8) 9 true []),(.mk (gg 65 (.si (.k (.string (ByteArray.mk #[48,48,48,49,48,50,48,51,48,52,48,53,48,54,48,55,48,56,48,57,49,48,49,49,49,50,49,51,49,52,49,53,49,54,49,55,49,56,49,57,50,48,50,49,50,50,50,51,50,52,50,53,50,54,50,55,50,56,50,57,51,48,51,49,51,50,51,51,51,52,51,53,51,54,51,55,51,56,51,57,52,48,52,49,52,50,52,51,52,52,52,53,52,54,52,55,52,56,52,57,53,48,53,49,53,50,53,51,53,52,53,53,53,54,53,55,53,56,53,57,54,48,54,49,54,50,54,51,54,52,54,53,54,54,54,55,54,56,54,57,55,48,55,49,55,50,55,51,55,52,55,53,55,54,55,55,55,56,55,57,56,48,56,49,56,50,56,51,56,52,56,53,56,54,56,55,56,56,56,57,57,48,57,49,57,50,57,51,57,52,57,53,57,54,57,55,57,56,57,57]))) (.t 64))) 10 true []),(.mk (gg 66 (.ia (.t 55) (.t 57) 1)) 11 true []),(.mk (G.mk none none (.st (.t 66) (.t 63) 1)) 12 false []),(.mk (gg 67 (.ia (.t 58) (.t 60) 1)) 13 true []),(.mk (G.mk none none (.st (.t 67) (.t 65) 1)) 14 false [])]) (.seq (.drw [(.mk (gm 68 0) 0 true []),(.mk (gm 69 4) 1 true []),(.mk (gg 70 (.bin .sub (.t 69) (xk .i64 5))) 2 true []),(.mk (gm 71 0) 3 true []),(.mk (gm 72 4) 4 true []),(.mk (gg 73 (.bin .sub (.t 72) (xk .i64 6))) 5 true []),(.mk (gm 74 11) 6 true []),(.mk (gg 75 (.bin .add (.t 74) (xk .u32 1))) 7 true []),(.mk (gg 76 (.si (.k (.string (ByteArray.mk #[48,48,48,49,48,50,48,51,48,52,48,53,48,54,48,55,48,56,48,57,49,48,49,49,49,50,49,51,49,52,49,53,49,54,49,55,49,56,49,57,50,48,50,49,50,50,50,51,50,52,50,53,50,54,50,55,50,56,50,57,51,48,51,49,51,50,51,51,51,52,51,53,51,54,51,55,51,56,51,57,52,48,52,49,52,50,52,51,52,52,52,53,52,54,52,55,52,56,52,57,53,48,53,49,53,50,53,51,53,52,53,53,53,54,53,55,53,56,53,57,54,48,54,49,54,50,54,51,54,52,54,53,54,54,54,55,54,56,54,57,55,48,55,49,55,50,55,51,55,52,55,53,55,54,55,55,55,56,55,57,56,48,56,49,56,50,56,51,56,52,56,53,56,54,56,55,56,56,56,57,57,48,57,49,57,50,57,51,57,52,57,53,57,54,57,55,57,56,57,57]))) (.t 75))) 8 true []),(.mk (gm 77 11) 9 true []),(.mk (gg 78 (.si (.k (.string (ByteArray.mk #[48,48,48,49,48,50,48,51,48,52,48,53,48,54,48,55,48,56,48,57,49,48,49,49,49,50,49,51,49,52,49,53,49,54,49,55,49,56,49,57,50,48,50,49,50,50,50,51,50,52,50,53,50,54,50,55,50,56,50,57,51,48,51,49,51,50,51,51,51,52,51,53,51,54,51,55,51,56,51,57,52,48,52,49,52,50,52,51,52,52,52,53,52,54,52,55,52,56,52,57,53,48,53,49,53,50,53,51,53,52,53,53,53,54,53,55,53,56,53,57,54,48,54,49,54,50,54,51,54,52,54,53,54,54,54,55,54,56,54,57,55,48,55,49,55,50,55,51,55,52,55,53,55,54,55,55,55,56,55,57,56,48,56,49,56,50,56,51,56,52,56,53,56,54,56,55,56,56,56,57,57,48,57,49,57,50,57,51,57,52,57,53,57,54,57,55,57,56,57,57]))) (.t 77))) 10 true []),(.mk (gg 79 (.ia (.t 68) (.t 70) 1)) 11 true []),(.mk (G.mk none none (.st (.t 79) (.t 76) 1)) 12 false []),(.mk (gg 80 (.ia (.t 71) (.t 73) 1)) 13 true []),(.mk (G.mk none none (.st (.t 80) (.t 78) 1)) 14 false [])]) (.seq (.drw [(.mk (gm 81 0) 0 true []),(.mk (gm 82 4) 1 true []),(.mk (gg 83 (.bin .sub (.t 82) (xk .i64 7))) 2 true []),(.mk (gm 84 0) 3 true []),(.mk (gm 85 4) 4 true []),(.mk (gg 86 (.bin .sub (.t 85) (xk .i64 8))) 5 true []),(.mk (gm 87 10) 6 true []),(.mk (gg 88 (.bin .add (.t 87) (xk .u32 1))) 7 true []),(.mk (gg 89 (.si (.k (.string (ByteArray.mk #[48,48,48,49,48,50,48,51,48,52,48,53,48,54,48,55,48,56,48,57,49,48,49,49,49,50,49,51,49,52,49,53,49,54,49,55,49,56,49,57,50,48,50,49,50,50,50,51,50,52,50,53,50,54,50,55,50,56,50,57,51,48,51,49,51,50,51,51,51,52,51,53,51,54,51,55,51,56,51,57,52,48,52,49,52,50,52,51,52,52,52,53,52,54,52,55,52,56,52,57,53,48,53,49,53,50,53,51,53,52,53,53,53,54,53,55,53,56,53,57,54,48,54,49,54,50,54,51,54,52,54,53,54,54,54,55,54,56,54,57,55,48,55,49,55,50,55,51,55,52,55,53,55,54,55,55,55,56,55,57,56,48,56,49,56,50,56,51,56,52,56,53,56,54,56,55,56,56,56,57,57,48,57,49,57,50,57,51,57,52,57,53,57,54,57,55,57,56,57,57]))) (.t 88))) 8 true []),(.mk (gm 90 10) 9 true []),(.mk (gg 91 (.si (.k (.string (ByteArray.mk #[48,48,48,49,48,50,48,51,48,52,48,53,48,54,48,55,48,56,48,57,49,48,49,49,49,50,49,51,49,52,49,53,49,54,49,55,49,56,49,57,50,48,50,49,50,50,50,51,50,52,50,53,50,54,50,55,50,56,50,57,51,48,51,49,51,50,51,51,51,52,51,53,51,54,51,55,51,56,51,57,52,48,52,49,52,50,52,51,52,52,52,53,52,54,52,55,52,56,52,57,53,48,53,49,53,50,53,51,53,52,53,53,53,54,53,55,53,56,53,57,54,48,54,49,54,50,54,51,54,52,54,53,54,54,54,55,54,56,54,57,55,48,55,49,55,50,55,51,55,52,55,53,55,54,55,55,55,56,55,57,56,48,56,49,56,50,56,51,56,52,56,53,56,54,56,55,56,56,56,57,57,48,57,49,57,50,57,51,57,52,57,53,57,54,57,55,57,56,57,57]))) (.t 90))) 10 true []),(.mk (gg 92 (.ia (.t 81) (.t 83) 1)) 11 true []),(.mk (G.mk none none (.st (.t 92) (.t 89) 1)) 12 false []),(.mk (gg 93 (.ia (.t 84) (.t 86) 1)) 13 true []),(.mk (G.mk none none (.st (.t 93) (.t 91) 1)) 14 false [])]) (.reg [gm 94 4,gg 95 (.bin .sub (.t 94) (xk .i64 8)),gm 4 95])))))))))))))) (sr [gm 96 1,gg 97 (.cvi .u32 (.t 96)),gm 12 97] (.cut (sr [gm 98 4,gg 99 (.bin .geq (.t 98) (xk .i64 4))] (.cond (.t 99) (sr [gm 100 12,gg 101 (.bik .rem .u32 (.t 100) 10000),gm 13 101] (sr [gm 102 12,gg 103 (.bik .quo .u32 (.t 102) 10000),gm 12 103] (sr [gm 104 13,gg 105 (.bik .quo .u32 (.t 104) 100),gg 106 (.bin .mul (.t 105) (xk .u32 2)),gm 107 13,gg 108 (.bik .rem .u32 (.t 107) 100),gg 109 (.bin .mul (.t 108) (xk .u32 2)),gm 14 106,gm 15 109] (.seq (.drw [(.mk (gm 110 0) 0 true []),(.mk (gm 111 4) 1 true []),(.mk (gg 112 (.bin .sub (.t 111) (xk .i64 1))) 2 true []),(.mk (gm 113 0) 3 true []),(.mk (gm 114 4) 4 true []),(.mk (gg 115 (.bin .sub (.t 114) (xk .i64 2))) 5 true []),(.mk (gm 116 15) 6 true []),(.mk (gg 117 (.bin .add (.t 116) (xk .u32 1))) 7 true []),(.mk (gg 118 (.si (.k (.string (ByteArray.mk #[48,48,48,49,48,50,48,51,48,52,48,53,48,54,48,55,48,56,48,57,49,48,49,49,49,50,49,51,49,52,49,53,49,54,49,55,49,56,49,57,50,48,50,49,50,50,50,51,50,52,50,53,50,54,50,55,50,56,50,57,51,48,51,49,51,50,51,51,51,52,51,53,51,54,51,55,51,56,51,57,52,48,52,49,52,50,52,51,52,52,52,53,52,54,52,55,52,56,52,57,53,48,53,49,53,50,53,51,53,52,53,53,53,54,53,55,53,56,53,57,54,48,54,49,54,50,54,51,54,52,54,53,54,54,54,55,54,56,54,57,55,48,55,49,55,50,55,51,55,52,55,53,55,54,55,55,55,56,55,57,56,48,56,49,56,50,56,51,56,52,56,53,56,54,56,55,56,56,56,57,57,48,57,49,57,50,57,51,57,52,57,53,57,54,57,55,57,56,57,57]))) (.t 117))) 8 true []),(.mk (gm 119 15) 9 true []),(.mk (gg 120 (.si (.k (.string (ByteArray.mk #[48,48,48,49,48,50,48,51,48,52,48,53,48,54,48,55,48,56,48,57,49,48,49,49,49,50,49,51,49,52,49,53,49,54,49,55,49,56,49,57,50,48,50,49,50,50,50,51,50,52,50,53,50,54,50,55,50,56,50,57,51,48,51,49,51,50,51,51,51,52,51,53,51,54,51,55,51,56,51,57,52,48,52,49,52,50,52,51,52,52,52,53,52,54,52,55,52,56,52,57,53,48,53,49,53,50,53,51,53,52,53,53,53,54,53,55,53,56,53,57,54,48,54,49,54,50,54,51,54,52,54,53,54,54,54,55,54,56,54,57,55,48,55,49,55,50,55,51,55,52,55,53,55,54,55,55,55,56,55,57,56,48,56,49,56,50,56,51,56,52,56,53,56,54,56,55,56,56,56,57,57,48,57,49,57,50,57,51,57,52,57,53,57,54,57,55,57,56,57,57]))) (.t 119))) 10 true []),(.mk (gg 121 (.ia (.t 110) (.t 112) 1)) 11 true []),(.mk (G.mk none none (.st (.t 121) (.t 118) 1)) 12 false []),(.mk (gg 122 (.ia (.t 113) (.t 115) 1)) 13 true []),(.mk (G.mk none none (.st (.t 122) (.t 120) 1)) 14 false [])]) (.seq (.drw [(.mk (gm 123 0) 0 true []),(.mk (gm 124 4) 1 true []),(.mk (gg 125 (.bin .sub (.t 124) (xk .i64 3))) 2 true []),(.mk (gm 126 0) 3 true []),(.mk (gm 127 4) 4 true []),(.mk (gg 128 (.bin .sub (.t 127) (xk .i64 4))) 5 true []),(.mk (gm 129 14) 6 true []),(.mk (gg 130 (.bin .add (.t 129) (xk .u32 1))) 7 true []),(.mk (gg 131 (.si (.k (.string (ByteArray.mk #[48,48,48,49,48,50,48,51,48,52,48,53,48,54,48,55,48,56,48,57,49,48,49,49,49,50,49,51,49,52,49,53,49,54,49,55,49,56,49,57,50,48,50,49,50,50,50,51,50,52,50,53,50,54,50,55,50,56,50,57,51,48,51,49,51,50,51,51,51,52,51,53,51,54,51,55,51,56,51,57,52,48,52,49,52,50,52,51,52,52,52,53,52,54,52,55,52,56,52,57,53,48,53,49,53,50,53,51,53,52,53,53,53,54,53,55,53,56,53,57,54,48,54,49,54,50,54,51,54,52,54,53,54,54,54,55,54,56,54,57,55,48,55,49,55,50,55,51,55,52,55,53,55,54,55,55,55,56,55,57,56,48,56,49,56,50,56,51,56,52,56,53,56,54,56,55,56,56,56,57,57,48,57,49,57,50,57,51,57,52,57,53,57,54,57,55,57,56,57,57]))) (.t 130))) 8 true []),(.mk (gm 132 14) 9 true []),(.mk (gg 133 (.si (.k (.string (ByteArray.mk #[48,48,48,49,48,50,48,51,48,52,48,53,48,54,48,55,48,56,48,57,49,48,49,49,49,50,49,51,49,52,49,53,49,54,49,55,49,56,49,57,50,48,50,49,50,50,50,51,50,52,50,53,50,54,50,55,50,56,50,57,51,48,51,49,51,50,51,51,51,52,51,53,51,54,51,55,51,56,51,57,52,48,52,49,52,50,52,51,52,52,52,53,52,54,52,55,52,56,52,57,53,48,53,49,53,50,53,51,53,52,53,53,53,54,53,55,53,56,53,57,54,48,54,49,54,50,54,51,54,52,54,53,54,54,54,55,54,56,54,57,55,48,55,49,55,50,55,51,55,52,55,53,55,54,55,55,55,56,55,57,56,48,56,49,56,50,56,51,56,52,56,53,56,54,56,55,56,56,56,57,57,48,57,49,57,50,57,51,57,52,57,53,57,54,57,55,57,56,57,57]))) (.t 132))) 10 true []),(.mk (gg 134 (.ia (.t 123) (.t 125) 1)) 11 true []),(.mk (G.mk none none (.st (.t 134) (.t 131) 1)) 12 false []),(.mk (gg 135 (.ia (.t 126) (.t 128) 1)) 13 true []),(.mk (G.mk none none (.st (.t 135) (.t 133) 1)) 14 false [])]) (.reg [gm 136 4,gg 137 (.bin .sub (.t 136) (xk .i64 4)),gm 4 137])))))) .skip)) (.cut (sr [gm 138 4,gg 139 (.bin .geq (.t 138) (xk .i64 2))] (.cond (.t 139) (sr [gm 140 12,gg 141 (.bik .rem .u32 (.t 140) 100),gg 142 (.bin .mul (.t 141) (xk .u32 2)),gm 16 142] (sr [gm 143 12,gg 144 (.bik .quo .u32 (.t 143) 100),gm 12 144] (.seq (.drw [(.mk (gm 145 0) 0 true []),(.mk (gm 146 4) 1 true []),(.mk (gg 147 (.bin .sub (.t 146) (xk .i64 1))) 2 true []),(.mk (gm 148 0) 3 true []),(.mk (gm 149 4) 4 true []),(.mk (gg 150 (.bin .sub (.t 149) (xk .i64 2))) 5 true []),(.mk (gm 151 16) 6 true []),(.mk (gg 152 (.bin .add (.t 151) (xk .u32 1))) 7 true []),(.mk (gg 153 (.si (.k (.string (ByteArray.mk #[48,48,48,49,48,50,48,51,48,52,48,53,48,54,48,55,48,56,48,57,49,48,49,49,49,50,49,51,49,52,49,53,49,54,49,55,49,56,49,57,50,48,50,49,50,50,50,51,50,52,50,53,50,54,50,55,50,56,50,57,51,48,51,49,51,50,51,51,51,52,51,53,51,54,51,55,51,56,51,57,52,48,52,49,52,50,52,51,52,52,52,53,52,54,52,55,52,56,52,57,53,48,53,49,53,50,53,51,53,52,53,53,53,54,53,55,53,56,53,57,54,48,54,49,54,50,54,51,54,52,54,53,54,54,54,55,54,56,54,57,55,48,55,49,55,50,55,51,55,52,55,53,55,54,55,55,55,56,55,57,56,48,56,49,56,50,56,51,56,52,56,53,56,54,56,55,56,56,56,57,57,48,57,49,57,50,57,51,57,52,57,53,57,54,57,55,57,56,57,57]))) (.t 152))) 8 true []),(.mk (gm 154 16) 9 true []),(.mk (gg 155 (.si (.k (.string (ByteArray.mk #[48,48,48,49,48,50,48,51,48,52,48,53,48,54,48,55,48,56,48,57,49,48,49,49,49,50,49,51,49,52,49,53,49,54,49,55,49,56,49,57,50,48,50,49,50,50,50,51,50,52,50,53,50,54,50,55,50,56,50,57,51,48,51,49,51,50,51,51,51,52,51,53,51,54,51,55,51,56,51,57,52,48,52,49,52,50,52,51,52,52,52,53,52,54,52,55,52,56,52,57,53,48,53,49,53,50,53,51,53,52,53,53,53,54,53,55,53,56,53,57,54,48,54,49,54,50,54,51,54,52,54,53,54,54,54,55,54,56,54,57,55,48,55,49,55,50,55,51,55,52,55,53,55,54,55,55,55,56,55,57,56,48,56,49,56,50,56,51,56,52,56,53,56,54,56,55,56,56,56,57,57,48,57,49,57,50,57,51,57,52,57,53,57,54,57,55,57,56,57,57]))) (.t 154))) 10 true []),(.mk (gg 156 (.ia (.t 145) (.t 147) 1)) 11 true []),(.mk (G.mk none none (.st (.t 156) (.t 153) 1)) 12 false []),(.mk (gg 157 (.ia (.t 148) (.t 150) 1)) 13 true []),(.mk (G.mk none none (.st (.t 157) (.t 155) 1)) 14 false [])]) (.reg [gm 158 4,gg 159 (.bin .sub (.t 158) (xk .i64 2)),gm 4 159])))) .skip)) (sr [gm 160 4,gg 161 (.bin .gtr (.t 160) (xk .i64 0))] (.cond (.t 161) (.reg [gm 162 0,gm 163 12,gg 164 (.bin .add (xk .u32 48) (.t 163)),gg 165 (.cvi .u8 (.t 164)),gg 166 (.ia (.t 162) (xk .i64 0) 1),(G.mk none none (.st (.t 166) (.t 165) 1))]) .skip))))))) 2 []):=by kernel_rfl
theorem c102_:compF Tryz.prog 102=some (.mk (sr [gg 2 (.mov (xk .i64 0))] (sr [gm 3 0,gg 4 (.bin .mul (.t 3) (xk .i64 78913)),gg 5 (.bik .shr .u64 (.t 4) 18),gm 2 5] .ret)) 1 [(.t 2)]):=by kernel_rfl
theorem c103_:compF Tryz.prog 103=some (.mk (sr [gg 2 (.mov (xk .i64 0))] (.cut (sr [gm 3 0,gg 4 (.bin .geq (.t 3) (xk .u64 4294967296))] (.cond (.t 4) (sr [gm 5 0,gg 6 (.bik .shr .u64 (.t 5) 32),gm 0 6] (.reg [gg 2 (.mov (xk .i64 32))])) .skip)) (.cut (sr [gm 7 0,gg 8 (.bin .geq (.t 7) (xk .u64 65536))] (.cond (.t 8) (sr [gm 9 0,gg 10 (.bik .shr .u64 (.t 9) 16),gm 0 10] (.reg [gm 11 2,gg 12 (.bin .add (.t 11) (xk .i64 16)),gm 2 12])) .skip)) (.cut (sr [gm 13 0,gg 14 (.bin .geq (.t 13) (xk .u64 256))] (.cond (.t 14) (sr [gm 15 0,gg 16 (.bik .shr .u64 (.t 15) 8),gm 0 16] (.reg [gm 17 2,gg 18 (.bin .add (.t 17) (xk .i64 8)),gm 2 18])) .skip)) (sr [gm 19 2,gm 20 0,gg 21 (.cvi .u8 (.t 20)),gg 22 (.si (.k (.string (ByteArray.mk #[0,1,2,2,3,3,3,3,4,4,4,4,4,4,4,4,5,5,5,5,5,5,5,5,5,5,5,5,5,5,5,5,6,6,6,6,6,6,6,6,6,6,6,6,6,6,6,6,6,6,6,6,6,6,6,6,6,6,6,6,6,6,6,6,7,7,7,7,7,7,7,7,7,7,7,7,7,7,7,7,7,7,7,7,7,7,7,7,7,7,7,7,7,7,7,7,7,7,7,7,7,7,7,7,7,7,7,7,7,7,7,7,7,7,7,7,7,7,7,7,7,7,7,7,7,7,7,7,8,8,8,8,8,8,8,8,8,8,8,8,8,8,8,8,8,8,8,8,8,8,8,8,8,8,8,8,8,8,8,8,8,8,8,8,8,8,8,8,8,8,8,8,8,8,8,8,8,8,8,8,8,8,8,8,8,8,8,8,8,8,8,8,8,8,8,8,8,8,8,8,8,8,8,8,8,8,8,8,8,8,8,8,8,8,8,8,8,8,8,8,8,8,8,8,8,8,8,8,8,8,8,8,8,8,8,8,8,8,8,8,8,8,8,8,8,8,8,8,8,8,8,8,8,8,8,8]))) (.t 21)),gg 23 (.cvi .i64 (.t 22)),gg 24 (.bin .add (.t 19) (.t 23)),gm 2 24] .ret))))) 1 [(.t 2)]):=by kernel_rfl
theorem c104_:compF Tryz.prog 104=some (.mk (sr [gg 2 (.mov (xk .i64 0))] (.cut (sr [gm 3 0] (.cond (.t 3) (sr [gg 2 (.mov (xk .i64 1))] .ret) .skip)) (sr [gg 2 (.mov (xk .i64 0))] .ret))) 1 [(.t 2)]):=by kernel_rfl
def digs (n u:Nat):List Int:=(List.range n).map fun i=>((48+u / 10 ^ (n - 1 - i) % 10:Nat):Int)
theorem digs_len (n u:Nat):(digs n u).length=n:=by unfold digs; rw [List.length_map,List.length_range]
theorem digs_get {n u i:Nat} (h:i<n):(digs n u)[i]? = some ((48+u / 10 ^ (n - 1 - i) % 10:Nat):Int):=by
 unfold digs
 rw [List.getElem?_map,List.getElem?_range h]
 rfl
def part (xs D:List Int) (o m:Nat):List Int:=xs.take (o+m)++(D.drop m++xs.drop (o+D.length))
theorem part_all (xs D:List Int) (o:Nat):part xs D o D.length=xs:=by
 unfold part
 rw [List.drop_length,List.nil_append,List.take_append_drop]
theorem part_len (xs D:List Int) (o m:Nat) (h:o+D.length≤xs.length) (hm:m≤D.length):(part xs D o m).length=xs.length:=by
 unfold part
 rw [List.length_append,List.length_append,List.length_take,List.length_drop,List.length_drop]
 omega
theorem part_set {xs D:List Int} {o m:Nat} {y:Int} (h:o+D.length≤xs.length) (hm:m<D.length) (hy:D[m]? = some y):(part xs D o (m+1)).set (o+m) y=part xs D o m:=by
 unfold part
 apply List.ext_getElem?
 intro i
 have hl:(xs.take (o+(m+1))).length=o+(m+1):=by rw [List.length_take]; omega
 have hl2:(xs.take (o+m)).length=o+m:=by rw [List.length_take]; omega
 rw [List.getElem?_set]
 split
 ·rename_i c
  subst c
  rw [if_pos (by rw [List.length_append,hl]; omega),List.getElem?_append_right (by omega),hl2,Nat.sub_self,List.getElem?_append_left (by rw [List.length_drop]; omega),List.getElem?_drop,Nat.add_zero,hy]
 rcases Nat.lt_or_ge i (o+m) with c | c
 ·rw [List.getElem?_append_left (by omega),List.getElem?_append_left (by omega),List.getElem?_take,List.getElem?_take,if_pos (by omega),if_pos c]
 rw [List.getElem?_append_right (l₁:=xs.take (o+(m+1))) (by omega),List.getElem?_append_right (l₁:=xs.take (o+m)) (by omega),hl,hl2]
 rw [show D.drop m=y::D.drop (m+1) by rw [List.drop_eq_getElem_cons hm]; congr 1; rw [List.getElem?_eq_getElem hm] at hy; exact Option.some.inj hy]
 rw [show i - (o+m)=(i - (o+(m+1)))+1 by omega,List.cons_append,List.getElem?_cons_succ]
theorem part_get {xs D:List Int} {o m j:Nat} (h:o+D.length≤xs.length) (hj:o+j<xs.length) (hm:m≤D.length):∃ x,(part xs D o m)[o+j]? = some x :=
 ⟨_,List.getElem?_eq_getElem (by rw [part_len xs D o m h hm]; exact hj)⟩
def smalls:ByteArray:=ByteArray.mk #[48,48,48,49,48,50,48,51,48,52,48,53,48,54,48,55,48,56,48,57,49,48,49,49,49,50,49,51,49,52,49,53,49,54,49,55,49,56,49,57,50,48,50,49,50,50,50,51,50,52,50,53,50,54,50,55,50,56,50,57,51,48,51,49,51,50,51,51,51,52,51,53,51,54,51,55,51,56,51,57,52,48,52,49,52,50,52,51,52,52,52,53,52,54,52,55,52,56,52,57,53,48,53,49,53,50,53,51,53,52,53,53,53,54,53,55,53,56,53,57,54,48,54,49,54,50,54,51,54,52,54,53,54,54,54,55,54,56,54,57,55,48,55,49,55,50,55,51,55,52,55,53,55,54,55,55,55,56,55,57,56,48,56,49,56,50,56,51,56,52,56,53,56,54,56,55,56,56,56,57,57,48,57,49,57,50,57,51,57,52,57,53,57,54,57,55,57,56,57,57]
theorem smalls_hi:∀ k,k<100→smalls[k*2]? = some (UInt8.ofNat (48+k / 10)):=by decide +kernel
theorem smalls_lo:∀ k,k<100→smalls[k*2+1]? = some (UInt8.ofNat (48+k % 10)):=by decide +kernel
theorem si_hi {k:Nat} (h:k<100):(if (0:Int)≤((k*2:Nat):Int) then smalls[((k*2:Nat):Int).toNat]? else none)=some (UInt8.ofNat (48+k / 10)):=by
 rw [if_pos (by omega),Int.toNat_natCast]
 exact smalls_hi k h
theorem si_lo {k:Nat} (h:k<100):(if (0:Int)≤((k*2+1:Nat):Int) then smalls[((k*2+1:Nat):Int).toNat]? else none)=some (UInt8.ofNat (48+k % 10)):=by
 rw [if_pos (by omega),Int.toNat_natCast]
 exact smalls_lo k h
theorem u8_nat {n:Nat} (h:n<256):(((UInt8.ofNat n).toNat:Nat):Int)=(n:Int):=by
 rw [UInt8.toNat_ofNat',Nat.mod_eq_of_lt h]
theorem len64W (w0:World) (H:List Blk) {n:Nat} (hn:n<18446744073709551616):CallsA Tryz.prog w0 103 [.c (.val (.int .u64 n))] H fun r H'=>r=i64 (len n)∧H'=H:=by
 refine CallsA_frame rfl rfl ?_ H
 refine callsA_of_ev c103_ ?_
 conv=>whnf
 refine Or.inr ⟨{p:Nat × Nat // p.1<4294967296∧len n=p.2+len p.1∧p.2≤32},fun p=>⟨[(0,.o (.c (.val (.int .u64 (p.1.1:Nat))))),(2,.o (.c (.val (.int .i64 (p.1.2:Nat)))))],[]⟩,?_,?_⟩
 ·conv=>whnf
  refine ⟨fun h1 => ?_,fun h1 => ?_⟩
  ·have h1:4294967296≤n:=ge_t h1
   conv=>whnf
   simp (disch:=omega) only [nshr64]
   refine ⟨⟨(n / 2 ^ 32,32),by simp only; omega,?_,by simp⟩,embNil ⟨rfl,rfl,trivial⟩⟩
   rw [len_div (j:=32) h1]
   simp only
   omega
  have h1:n<4294967296:=ge_f h1
  conv=>whnf
  exact ⟨⟨(n,0),h1,by simp,by simp⟩,embNil ⟨rfl,rfl,trivial⟩⟩
 rintro ⟨⟨x,b⟩,hx,hl,hb⟩
 simp only at hx hl hb
 conv=>whnf
 refine Or.inr ⟨{p:Nat × Nat // p.1<65536∧len n=p.2+len p.1∧p.2≤48},fun p=>⟨[(0,.o (.c (.val (.int .u64 (p.1.1:Nat))))),(2,.o (.c (.val (.int .i64 (p.1.2:Nat)))))],[]⟩,?_,?_⟩
 ·conv=>whnf
  refine ⟨fun h1 => ?_,fun h1 => ?_⟩
  ·have h1:65536≤x:=ge_t h1
   conv=>whnf
   refine ⟨⟨(x / 2 ^ 16,b+16),by simp only; omega,?_,by simp only; omega⟩,embNil ⟨?_,?_,trivial⟩⟩
   ·rw [hl,len_div (j:=16) h1]
    simp only
    omega
   ·refine eq_u64 ?_
    rw [nshr64 _ _ (by omega)]
   refine eq_i64 ?_
   show IntKind.i64.wrap ((b:Int)+((16:Nat):Int))=_
   rw [nadd,nwrapi (by omega)]
  have h1:x<65536:=ge_f h1
  conv=>whnf
  exact ⟨⟨(x,b),h1,hl,by simp only; omega⟩,embNil ⟨rfl,rfl,trivial⟩⟩
 clear hb hl hx x b
 rintro ⟨⟨x,b⟩,hx,hl,hb⟩
 simp only at hx hl hb
 conv=>whnf
 refine Or.inr ⟨{p:Nat × Nat // p.1<256∧len n=p.2+len p.1∧p.2≤56},fun p=>⟨[(0,.o (.c (.val (.int .u64 (p.1.1:Nat))))),(2,.o (.c (.val (.int .i64 (p.1.2:Nat)))))],[]⟩,?_,?_⟩
 ·conv=>whnf
  refine ⟨fun h1 => ?_,fun h1 => ?_⟩
  ·have h1:256≤x:=ge_t h1
   conv=>whnf
   refine ⟨⟨(x / 2 ^ 8,b+8),by simp only; omega,?_,by simp only; omega⟩,embNil ⟨?_,?_,trivial⟩⟩
   ·rw [hl,len_div (j:=8) h1]
    simp only
    omega
   ·refine eq_u64 ?_
    rw [nshr64 _ _ (by omega)]
   refine eq_i64 ?_
   show IntKind.i64.wrap ((b:Int)+((8:Nat):Int))=_
   rw [nadd,nwrapi (by omega)]
  have h1:x<256:=ge_f h1
  conv=>whnf
  exact ⟨⟨(x,b),h1,hl,by simp only; omega⟩,embNil ⟨rfl,rfl,trivial⟩⟩
 clear hb hl hx x b
 rintro ⟨⟨x,b⟩,hx,hl,hb⟩
 simp only at hx hl hb
 have hl8:=len_le (n:=x) (k:=8) hx
 conv=>whnf
 refine ⟨UInt8.ofNat (len x),?_,?_⟩
 ·show (if 0≤IntKind.u8.wrap (x:Int) then lens[(IntKind.u8.wrap (x:Int)).toNat]? else none)=_
  rw [nwrap8 hx,if_pos (by omega),Int.toNat_natCast]
  exact lens_get x hx
 conv=>whnf
 refine Or.inl ⟨i64_of ?_,rfl⟩
 have e1:(UInt8.ofNat (len x)).toNat=len x:=by
  rw [UInt8.toNat_ofNat']
  omega
 show IntKind.i64.wrap ((b:Int)+IntKind.i64.wrap (((UInt8.ofNat (len x)).toNat:Nat):Int))=_
 rw [e1,nwrapi (by omega),nadd,nwrapi (by omega),hl]
theorem log10W (w0:World) (H:List Blk) {n:Nat} (hn:n≤64):CallsA Tryz.prog w0 102 [.c (.val (.int .i64 n))] H fun r H'=>r=i64 ((n*78913 / 2 ^ 18:Nat):Int)∧H'=H:=by
 refine CallsA_frame rfl rfl ?_ H
 refine callsA_of_ev c102_ ?_
 conv=>whnf
 refine Or.inl ⟨i64_of ?_,rfl⟩
 show ((IntKind.i64.wrap ((n:Int)*((78913:Nat):Int))).fdiv ((2:Int) ^ min 18 IntKind.i64.bits))=_
 rw [nmul,nwrapi (by omega),nshri _ _ (by omega)]
theorem bool2W (w0:World) (H:List Blk) (b:Bool):CallsA Tryz.prog w0 104 [.c (.val (.bool b))] H fun r H'=>r=i64 ((if b=true then 1 else 0:Nat):Int)∧H'=H:=by
 refine CallsA_frame rfl rfl ?_ H
 refine callsA_of_ev c104_ ?_
 conv=>whnf
 refine Or.inl ?_
 conv=>whnf
 refine ⟨fun g => ?_,fun g => ?_⟩
 ·subst g
  conv=>whnf
  exact Or.inl ⟨rfl,rfl⟩
 subst g
 conv=>whnf
 exact Or.inl ⟨rfl,rfl⟩
def ndig (u:Nat):Nat:=len u*78913 / 2 ^ 18+if 10 ^ (len u*78913 / 2 ^ 18)≤u then 1 else 0
theorem log_fact:∀ l,l≤64→2 ^ l≤10 ^ (l*78913 / 2 ^ 18+1)∧l*78913 / 2 ^ 18<20:=by decide +kernel
theorem ndig_le {u:Nat} (h:u<18446744073709551616):ndig u≤20:=by
 have:=(log_fact (len u) (len_le (k:=64) h)).2
 unfold ndig
 split <;> omega
theorem lt_ndig {u:Nat} (h:u<18446744073709551616):u<10 ^ ndig u:=by
 have h1:=(log_fact (len u) (len_le (k:=64) h)).1
 unfold ndig
 split
 ·refine Nat.lt_of_lt_of_le ?_ h1
  by_cases h0:u=0
  ·rw [h0]
   exact Nat.two_pow_pos _
  obtain ⟨k,e1,_,e3⟩:=len_spec h0
  rw [e1]
  exact e3
 rw [Nat.add_zero]
 omega
theorem ndig_pos {u:Nat} (h:1≤u) (h2:u<18446744073709551616):1≤ndig u:=by
 have:=lt_ndig h2
 rcases Nat.eq_zero_or_pos (ndig u) with c | c
 ·rw [c] at this
  omega
 exact c
def pows (w0:World):Prop := ∀ i,i<20→w0.cell? ((Addr.mk 16 0 none).add (i*1))=some (.int .u64 ((10 ^ i:Nat):Int))
theorem numDigitsW (w0:World) (H:List Blk) (hp:pows w0) {u:Nat} (hu:u<18446744073709551616):CallsA Tryz.prog w0 97 [.c (.val (.int .u64 u))] H fun r H'=>r=i64 (ndig u)∧H'=H:=by
 refine CallsA_frame rfl rfl ?_ H
 have hl:=len_le (n:=u) (k:=64) hu
 have hf:=(log_fact (len u) hl).2
 refine callsA_of_ev c97_ ?_
 conv=>whnf
 refine (len64W w0 [] hu).mono ?_
 rintro _ _ ⟨rfl,rfl⟩
 conv=>whnf
 refine (log10W w0 [] hl).mono ?_
 rintro _ _ ⟨rfl,rfl⟩
 obtain ⟨t,ht⟩:∃ t,t=len u*78913 / 2 ^ 18:=⟨_,rfl⟩
 rw [← ht] at hf ⊢
 conv=>whnf
 refine ⟨by omega,?_⟩
 conv=>whnf
 refine ⟨_,hp t hf,rfl,?_⟩
 conv=>whnf
 refine (bool2W w0 [] _).mono ?_
 rintro _ _ ⟨rfl,rfl⟩
 conv=>whnf
 refine Or.inl ⟨i64_of ?_,rfl⟩
 show IntKind.i64.wrap ((t:Int)+(((if decide (((u:Nat):Int)≥((10 ^ t:Nat):Int))=true then 1 else 0):Nat):Int))=_
 have e:(if decide (((u:Nat):Int)≥((10 ^ t:Nat):Int))=true then 1 else 0)=(if 10 ^ t≤u then 1 else 0:Nat):=by
  by_cases g:10 ^ t≤u
  ·rw [if_pos g,if_pos (decide_eq_true (by exact_mod_cast g))]
  rw [if_neg g,if_neg (by rw [decide_eq_false (by intro g2; exact g (by exact_mod_cast g2))]; decide)]
 rw [e]
 unfold ndig
 rw [← ht,nadd,nwrapi (by split <;> omega)]
theorem smallW (w0:World) (H:List Blk) {n:Nat} (hn:n<100):CallsA Tryz.prog w0 96 [.c (.val (.int .i64 n))] H fun r H'=>r = .o (.c (.val (.string (strOf (if n<10 then digs 1 n else digs 2 n)))))∧H'=H:=by
 refine CallsA_frame rfl rfl ?_ H
 have hf:∀ n,n<10→(ByteArray.mk #[48,49,50,51,52,53,54,55,56,57,97,98,99,100,101,102,103,104,105,106,107,108,109,110,111,112,113,114,115,116,117,118,119,120,121,122]).extract n (n+1)=strOf (digs 1 n):=by decide +kernel
 have hf2:∀ n,n<100→10≤n→smalls.extract (n*2) (n*2+2)=strOf (digs 2 n):=by decide +kernel
 refine callsA_of_ev c96_ ?_
 conv=>whnf
 refine Or.inl ?_
 conv=>whnf
 refine ⟨fun g => ?_,fun g => ?_⟩
 ·have g:n<10:=lt_t g
  conv=>whnf
  rw [nadd,nwrapi (n:=n+1) (by omega)]
  refine ⟨⟨by omega,by omega,?_⟩,?_⟩
  ·show ((n+1:Nat):Int)≤((36:Nat):Int)
   omega
  conv=>whnf
  refine Or.inl ⟨?_,rfl⟩
  rw [if_pos g,← hf n g]
  rfl
 have g:10≤n:=lt_f g
 conv=>whnf
 rw [nmul,nwrapi (n:=n*2) (by omega),nadd,nwrapi (n:=n*2+2) (by omega)]
 refine ⟨⟨by omega,by omega,?_⟩,?_⟩
 ·show ((n*2+2:Nat):Int)≤((200:Nat):Int)
  omega
 conv=>whnf
 refine Or.inl ⟨?_,rfl⟩
 rw [if_neg (by omega),← hf2 n hn g]
 rfl
def arrB (T:TypeId) (xs:List Int):Blk := .vec true T (encI .u8) [] 1 xs
theorem digs_at {n u m p:Nat} (hp:p<m) (hm:m≤n):(digs n u)[m - 1 - p]? = some ((48+u / 10 ^ (n - m) / 10 ^ p % 10:Nat):Int):=by
 rw [digs_get (by omega),Nat.div_div_eq_div_mul,← Nat.pow_add,show n - 1 - (m - 1 - p)=n - m+p by omega]
theorem part_step {xs:List Int} {n u o m p:Nat} {y:Int} (h:o+n≤xs.length) (hm:m+p+1≤n) (hy:y=((48+u / 10 ^ (n - (m+p+1)) / 10 ^ p % 10:Nat):Int)):(part xs (digs n u) o (m+1)).set (o+m) y=part xs (digs n u) o m:=by
 have hl:=digs_len n u
 refine part_set (by omega) (by omega) ?_
 have:=digs_at (n:=n) (u:=u) (m:=m+p+1) (p:=p) (by omega) hm
 rw [show m+p+1 - 1 - p=m by omega] at this
 rw [this,hy]
theorem pow_next {u n m j:Nat} (hj:j≤m) (hm:m≤n):u / 10 ^ (n - m) / 10 ^ j=u / 10 ^ (n - (m - j)):=by
 rw [Nat.div_div_eq_div_mul,← Nat.pow_add,show n - m+j=n - (m - j) by omega]
theorem last_small {u n m:Nat} (h:u<10 ^ n) (hm:m≤n):u / 10 ^ (n - m)<10 ^ m:=by
 refine (Nat.div_lt_iff_lt_mul (Nat.pow_pos (by omega))).2 ?_
 rw [← Nat.pow_add,show m+(n - m)=n by omega]
 exact h
theorem base10W (w0:World) {T:TypeId} {xs:List Int} {o n c u:Nat} (hlen:o+n≤xs.length) (hn:n≤20) (hu:u<18446744073709551616) (hun:u<10 ^ n) :
 CallsA Tryz.prog w0 98 [.c (.sli 0 1 o n c),.c (.val (.int .u64 u))] [arrB T xs] fun r H=>r = .t []∧H=[arrB T (part xs (digs n u) o 0)]:=by
 have hdl:=digs_len n u
 refine callsA_of_ev c98_ ?_
 conv=>whnf
 refine Or.inl ?_
 conv=>whnf
 refine ⟨{m:Nat // m≤n},fun ⟨m,_⟩=>⟨[(0,.o (.c (.sli 0 1 o n c))),(1,.o (.c (.val (.int .u64 (u / 10 ^ (n - m):Nat))))),(4,.o (.c (.val (.int .i64 m))))],[arrB T (part xs (digs n u) o m)]⟩,fun m=>m.1,
  ⟨⟨n,Nat.le_refl _⟩,[0],⟨rfl,⟨?_,rfl,trivial⟩,rfl⟩,rfl,eq_u64 (by rw [Nat.sub_self,Nat.pow_zero,Nat.div_one]),rfl,trivial⟩,fun ⟨m,hm⟩ => ?_⟩
 ·have:=part_all xs (digs n u) o
  rw [hdl] at this
  rw [this]
  rfl
 obtain ⟨v,hv⟩:∃ v,v=u / 10 ^ (n - m):=⟨_,rfl⟩
 have hvu:v≤u:=by rw [hv]; exact Nat.div_le_self _ _
 have hvm:v<10 ^ m:=by rw [hv]; exact last_small hun hm
 conv=>whnf
 rw [← hv]
 refine ⟨fun g => ?_,fun g => ?_⟩
 ·have g:8≤m:=ge_t g
  conv=>whnf
  rw [ntmod v 100000000,nwrap32 (n:=v % 100000000) (by omega)]
  obtain ⟨x,hx⟩:∃ x,x=v % 100000000:=⟨_,rfl⟩
  rw [← hx]
  rw [ntdiv v 100000000,nwrap64 (n:=v / 100000000) (by omega),ntdiv x 10000,nwrap32 (n:=x / 10000) (by omega),ntmod x 10000]
  obtain ⟨y1,hy1⟩:∃ y,y=x / 10000:=⟨_,rfl⟩
  obtain ⟨y0,hy0⟩:∃ y,y=x % 10000:=⟨_,rfl⟩
  rw [← hy1,← hy0]
  rw [ntdiv y0 100,nwrap32 (n:=y0 / 100) (by omega),nmul (y0 / 100) 2,nwrap32 (n:=y0 / 100*2) (by omega),ntmod y0 100,nmul (y0 % 100) 2,nwrap32 (n:=y0 % 100*2) (by omega),ntdiv y1 100,nwrap32 (n:=y1 / 100) (by omega),nmul (y1 / 100) 2,nwrap32 (n:=y1 / 100*2) (by omega),ntmod y1 100,nmul (y1 % 100) 2,nwrap32 (n:=y1 % 100*2) (by omega)]
  obtain ⟨k0,hk0⟩:∃ y,y=y0 % 100:=⟨_,rfl⟩
  obtain ⟨k1,hk1⟩:∃ y,y=y0 / 100:=⟨_,rfl⟩
  obtain ⟨k2,hk2⟩:∃ y,y=y1 % 100:=⟨_,rfl⟩
  obtain ⟨k3,hk3⟩:∃ y,y=y1 / 100:=⟨_,rfl⟩
  rw [← hk0,← hk1,← hk2,← hk3]
  conv=>whnf
  rw [nadd (k0*2) 1,nwrap32 (n:=k0*2+1) (by omega)]
  refine ⟨_,si_lo (k:=k0) (by omega),?_⟩
  conv=>whnf
  refine ⟨_,si_hi (k:=k0) (by omega),?_⟩
  conv=>whnf
  rw [nsub (a:=m) (b:=1) (by omega),nwrapi (n:=m - 1) (by omega)]
  refine ⟨by omega,?_⟩
  conv=>whnf
  obtain ⟨z1,hz1⟩:=part_get (xs:=xs) (D:=digs n u) (o:=o) (m:=m - 0) (j:=m - 1) (by omega) (by omega) (by omega)
  refine ⟨z1,((48+k0 % 10:Nat):Int),hz1,?_,?_⟩
  ·show [CV.val (.int .u8 ((48+k0 % 10:Nat):Int))]=[CV.val (.int .u8 (((UInt8.ofNat (48+k0 % 10)).toNat:Nat):Int))]
   rw [u8_nat (by omega)]
  conv=>whnf
  refine ⟨trivial,?_⟩
  have e1:(part xs (digs n u) o m).set (o+((m - 1:Nat):Int).toNat) ((48+k0 % 10:Nat):Int)=part xs (digs n u) o (m - 1):=by
   rw [Int.toNat_natCast]
   have:=part_step (xs:=xs) (n:=n) (u:=u) (o:=o) (m:=m - 1) (p:=0) (y:=((48+k0 % 10:Nat):Int)) hlen (by omega) ?_
   ·rw [show m - 1+1=m by omega] at this
    exact this
   rw [show m - 1+0+1=m by omega,← hv]
   omega
  rw [e1]
  conv=>whnf
  rw [nsub (a:=m) (b:=2) (by omega),nwrapi (n:=m - 2) (by omega)]
  refine ⟨by omega,?_⟩
  conv=>whnf
  obtain ⟨z2,hz2⟩:=part_get (xs:=xs) (D:=digs n u) (o:=o) (m:=m - 1) (j:=m - 2) (by omega) (by omega) (by omega)
  refine ⟨z2,((48+k0 / 10:Nat):Int),hz2,?_,?_⟩
  ·show [CV.val (.int .u8 ((48+k0 / 10:Nat):Int))]=[CV.val (.int .u8 (((UInt8.ofNat (48+k0 / 10)).toNat:Nat):Int))]
   rw [u8_nat (by omega)]
  conv=>whnf
  refine ⟨trivial,?_⟩
  have e2:(part xs (digs n u) o (m - 1)).set (o+((m - 2:Nat):Int).toNat) ((48+k0 / 10:Nat):Int)=part xs (digs n u) o (m - 2):=by
   rw [Int.toNat_natCast]
   have:=part_step (xs:=xs) (n:=n) (u:=u) (o:=o) (m:=m - 2) (p:=1) (y:=((48+k0 / 10:Nat):Int)) hlen (by omega) ?_
   ·rw [show m - 2+1=m - 1 by omega] at this
    exact this
   rw [show m - 2+1+1=m by omega,← hv]
   omega
  rw [e2]
  conv=>whnf
  rw [nadd (k1*2) 1,nwrap32 (n:=k1*2+1) (by omega)]
  refine ⟨_,si_lo (k:=k1) (by omega),?_⟩
  conv=>whnf
  refine ⟨_,si_hi (k:=k1) (by omega),?_⟩
  conv=>whnf
  rw [nsub (a:=m) (b:=3) (by omega),nwrapi (n:=m - 3) (by omega)]
  refine ⟨by omega,?_⟩
  conv=>whnf
  obtain ⟨z3,hz3⟩:=part_get (xs:=xs) (D:=digs n u) (o:=o) (m:=m - 2) (j:=m - 3) (by omega) (by omega) (by omega)
  refine ⟨z3,((48+k1 % 10:Nat):Int),hz3,?_,?_⟩
  ·show [CV.val (.int .u8 ((48+k1 % 10:Nat):Int))]=[CV.val (.int .u8 (((UInt8.ofNat (48+k1 % 10)).toNat:Nat):Int))]
   rw [u8_nat (by omega)]
  conv=>whnf
  refine ⟨trivial,?_⟩
  have e3:(part xs (digs n u) o (m - 2)).set (o+((m - 3:Nat):Int).toNat) ((48+k1 % 10:Nat):Int)=part xs (digs n u) o (m - 3):=by
   rw [Int.toNat_natCast]
   have:=part_step (xs:=xs) (n:=n) (u:=u) (o:=o) (m:=m - 3) (p:=2) (y:=((48+k1 % 10:Nat):Int)) hlen (by omega) ?_
   ·rw [show m - 3+1=m - 2 by omega] at this
    exact this
   rw [show m - 3+2+1=m by omega,← hv]
   omega
  rw [e3]
  conv=>whnf
  rw [nsub (a:=m) (b:=4) (by omega),nwrapi (n:=m - 4) (by omega)]
  refine ⟨by omega,?_⟩
  conv=>whnf
  obtain ⟨z4,hz4⟩:=part_get (xs:=xs) (D:=digs n u) (o:=o) (m:=m - 3) (j:=m - 4) (by omega) (by omega) (by omega)
  refine ⟨z4,((48+k1 / 10:Nat):Int),hz4,?_,?_⟩
  ·show [CV.val (.int .u8 ((48+k1 / 10:Nat):Int))]=[CV.val (.int .u8 (((UInt8.ofNat (48+k1 / 10)).toNat:Nat):Int))]
   rw [u8_nat (by omega)]
  conv=>whnf
  refine ⟨trivial,?_⟩
  have e4:(part xs (digs n u) o (m - 3)).set (o+((m - 4:Nat):Int).toNat) ((48+k1 / 10:Nat):Int)=part xs (digs n u) o (m - 4):=by
   rw [Int.toNat_natCast]
   have:=part_step (xs:=xs) (n:=n) (u:=u) (o:=o) (m:=m - 4) (p:=3) (y:=((48+k1 / 10:Nat):Int)) hlen (by omega) ?_
   ·rw [show m - 4+1=m - 3 by omega] at this
    exact this
   rw [show m - 4+3+1=m by omega,← hv]
   omega
  rw [e4]
  conv=>whnf
  rw [nadd (k2*2) 1,nwrap32 (n:=k2*2+1) (by omega)]
  refine ⟨_,si_lo (k:=k2) (by omega),?_⟩
  conv=>whnf
  refine ⟨_,si_hi (k:=k2) (by omega),?_⟩
  conv=>whnf
  rw [nsub (a:=m) (b:=5) (by omega),nwrapi (n:=m - 5) (by omega)]
  refine ⟨by omega,?_⟩
  conv=>whnf
  obtain ⟨z5,hz5⟩:=part_get (xs:=xs) (D:=digs n u) (o:=o) (m:=m - 4) (j:=m - 5) (by omega) (by omega) (by omega)
  refine ⟨z5,((48+k2 % 10:Nat):Int),hz5,?_,?_⟩
  ·show [CV.val (.int .u8 ((48+k2 % 10:Nat):Int))]=[CV.val (.int .u8 (((UInt8.ofNat (48+k2 % 10)).toNat:Nat):Int))]
   rw [u8_nat (by omega)]
  conv=>whnf
  refine ⟨trivial,?_⟩
  have e5:(part xs (digs n u) o (m - 4)).set (o+((m - 5:Nat):Int).toNat) ((48+k2 % 10:Nat):Int)=part xs (digs n u) o (m - 5):=by
   rw [Int.toNat_natCast]
   have:=part_step (xs:=xs) (n:=n) (u:=u) (o:=o) (m:=m - 5) (p:=4) (y:=((48+k2 % 10:Nat):Int)) hlen (by omega) ?_
   ·rw [show m - 5+1=m - 4 by omega] at this
    exact this
   rw [show m - 5+4+1=m by omega,← hv]
   omega
  rw [e5]
  conv=>whnf
  rw [nsub (a:=m) (b:=6) (by omega),nwrapi (n:=m - 6) (by omega)]
  refine ⟨by omega,?_⟩
  conv=>whnf
  obtain ⟨z6,hz6⟩:=part_get (xs:=xs) (D:=digs n u) (o:=o) (m:=m - 5) (j:=m - 6) (by omega) (by omega) (by omega)
  refine ⟨z6,((48+k2 / 10:Nat):Int),hz6,?_,?_⟩
  ·show [CV.val (.int .u8 ((48+k2 / 10:Nat):Int))]=[CV.val (.int .u8 (((UInt8.ofNat (48+k2 / 10)).toNat:Nat):Int))]
   rw [u8_nat (by omega)]
  conv=>whnf
  refine ⟨trivial,?_⟩
  have e6:(part xs (digs n u) o (m - 5)).set (o+((m - 6:Nat):Int).toNat) ((48+k2 / 10:Nat):Int)=part xs (digs n u) o (m - 6):=by
   rw [Int.toNat_natCast]
   have:=part_step (xs:=xs) (n:=n) (u:=u) (o:=o) (m:=m - 6) (p:=5) (y:=((48+k2 / 10:Nat):Int)) hlen (by omega) ?_
   ·rw [show m - 6+1=m - 5 by omega] at this
    exact this
   rw [show m - 6+5+1=m by omega,← hv]
   omega
  rw [e6]
  conv=>whnf
  rw [nadd (k3*2) 1,nwrap32 (n:=k3*2+1) (by omega)]
  refine ⟨_,si_lo (k:=k3) (by omega),?_⟩
  conv=>whnf
  refine ⟨_,si_hi (k:=k3) (by omega),?_⟩
  conv=>whnf
  rw [nsub (a:=m) (b:=7) (by omega),nwrapi (n:=m - 7) (by omega)]
  refine ⟨by omega,?_⟩
  conv=>whnf
  obtain ⟨z7,hz7⟩:=part_get (xs:=xs) (D:=digs n u) (o:=o) (m:=m - 6) (j:=m - 7) (by omega) (by omega) (by omega)
  refine ⟨z7,((48+k3 % 10:Nat):Int),hz7,?_,?_⟩
  ·show [CV.val (.int .u8 ((48+k3 % 10:Nat):Int))]=[CV.val (.int .u8 (((UInt8.ofNat (48+k3 % 10)).toNat:Nat):Int))]
   rw [u8_nat (by omega)]
  conv=>whnf
  refine ⟨trivial,?_⟩
  have e7:(part xs (digs n u) o (m - 6)).set (o+((m - 7:Nat):Int).toNat) ((48+k3 % 10:Nat):Int)=part xs (digs n u) o (m - 7):=by
   rw [Int.toNat_natCast]
   have:=part_step (xs:=xs) (n:=n) (u:=u) (o:=o) (m:=m - 7) (p:=6) (y:=((48+k3 % 10:Nat):Int)) hlen (by omega) ?_
   ·rw [show m - 7+1=m - 6 by omega] at this
    exact this
   rw [show m - 7+6+1=m by omega,← hv]
   omega
  rw [e7]
  conv=>whnf
  rw [nsub (a:=m) (b:=8) (by omega),nwrapi (n:=m - 8) (by omega)]
  refine ⟨by omega,?_⟩
  conv=>whnf
  obtain ⟨z8,hz8⟩:=part_get (xs:=xs) (D:=digs n u) (o:=o) (m:=m - 7) (j:=m - 8) (by omega) (by omega) (by omega)
  refine ⟨z8,((48+k3 / 10:Nat):Int),hz8,?_,?_⟩
  ·show [CV.val (.int .u8 ((48+k3 / 10:Nat):Int))]=[CV.val (.int .u8 (((UInt8.ofNat (48+k3 / 10)).toNat:Nat):Int))]
   rw [u8_nat (by omega)]
  conv=>whnf
  refine ⟨trivial,?_⟩
  have e8:(part xs (digs n u) o (m - 7)).set (o+((m - 8:Nat):Int).toNat) ((48+k3 / 10:Nat):Int)=part xs (digs n u) o (m - 8):=by
   rw [Int.toNat_natCast]
   have:=part_step (xs:=xs) (n:=n) (u:=u) (o:=o) (m:=m - 8) (p:=7) (y:=((48+k3 / 10:Nat):Int)) hlen (by omega) ?_
   ·rw [show m - 8+1=m - 7 by omega] at this
    exact this
   rw [show m - 8+7+1=m by omega,← hv]
   omega
  rw [e8]
  conv=>whnf
  refine ⟨⟨m - 8,by omega⟩,⟨[0],⟨rfl,⟨rfl,rfl,trivial⟩,rfl⟩,rfl,eq_u64 ?_,eq_i64 ?_,trivial⟩,?_⟩
  ·rw [← pow_next (by omega) hm,← hv]
  ·rw [nsub (by omega),nwrapi (by omega)]
  show m - 8<m
  omega
 have g:m<8:=ge_f g
 conv=>whnf
 have hv8:v<100000000:=Nat.lt_of_lt_of_le hvm (Nat.pow_le_pow_right (by omega) (show m≤8 by omega))
 rw [nwrap32 (n:=v) (by omega)]
 refine Or.inr ⟨{q:Nat // q≤n∧q<4},fun ⟨q,_⟩=>⟨[(0,.o (.c (.sli 0 1 o n c))),(4,.o (.c (.val (.int .i64 q)))),(12,.o (.c (.val (.int .u32 (u / 10 ^ (n - q):Nat)))))],[arrB T (part xs (digs n u) o q)]⟩,?_,?_⟩
 ·conv=>whnf
  refine ⟨fun g4 => ?_,fun g4 => ?_⟩
  ·have g4:4≤m:=ge_t g4
   conv=>whnf
   rw [ntmod v 10000,ntdiv v 10000,nwrap32 (n:=v / 10000) (by omega)]
   obtain ⟨y0,hy0⟩:∃ y,y=v % 10000:=⟨_,rfl⟩
   rw [← hy0]
   rw [ntdiv y0 100,nwrap32 (n:=y0 / 100) (by omega),nmul (y0 / 100) 2,nwrap32 (n:=y0 / 100*2) (by omega),ntmod y0 100,nmul (y0 % 100) 2,nwrap32 (n:=y0 % 100*2) (by omega)]
   obtain ⟨k0,hk0⟩:∃ y,y=y0 % 100:=⟨_,rfl⟩
   obtain ⟨k1,hk1⟩:∃ y,y=y0 / 100:=⟨_,rfl⟩
   rw [← hk0,← hk1]
   conv=>whnf
   rw [nadd (k0*2) 1,nwrap32 (n:=k0*2+1) (by omega)]
   refine ⟨_,si_lo (k:=k0) (by omega),?_⟩
   conv=>whnf
   refine ⟨_,si_hi (k:=k0) (by omega),?_⟩
   conv=>whnf
   rw [nsub (a:=m) (b:=1) (by omega),nwrapi (n:=m - 1) (by omega)]
   refine ⟨by omega,?_⟩
   conv=>whnf
   obtain ⟨z1,hz1⟩:=part_get (xs:=xs) (D:=digs n u) (o:=o) (m:=m - 0) (j:=m - 1) (by omega) (by omega) (by omega)
   refine ⟨z1,((48+k0 % 10:Nat):Int),hz1,?_,?_⟩
   ·show [CV.val (.int .u8 ((48+k0 % 10:Nat):Int))]=[CV.val (.int .u8 (((UInt8.ofNat (48+k0 % 10)).toNat:Nat):Int))]
    rw [u8_nat (by omega)]
   conv=>whnf
   refine ⟨trivial,?_⟩
   have e1:(part xs (digs n u) o m).set (o+((m - 1:Nat):Int).toNat) ((48+k0 % 10:Nat):Int)=part xs (digs n u) o (m - 1):=by
    rw [Int.toNat_natCast]
    have:=part_step (xs:=xs) (n:=n) (u:=u) (o:=o) (m:=m - 1) (p:=0) (y:=((48+k0 % 10:Nat):Int)) hlen (by omega) ?_
    ·rw [show m - 1+1=m by omega] at this
     exact this
    rw [show m - 1+0+1=m by omega,← hv]
    omega
   rw [e1]
   conv=>whnf
   rw [nsub (a:=m) (b:=2) (by omega),nwrapi (n:=m - 2) (by omega)]
   refine ⟨by omega,?_⟩
   conv=>whnf
   obtain ⟨z2,hz2⟩:=part_get (xs:=xs) (D:=digs n u) (o:=o) (m:=m - 1) (j:=m - 2) (by omega) (by omega) (by omega)
   refine ⟨z2,((48+k0 / 10:Nat):Int),hz2,?_,?_⟩
   ·show [CV.val (.int .u8 ((48+k0 / 10:Nat):Int))]=[CV.val (.int .u8 (((UInt8.ofNat (48+k0 / 10)).toNat:Nat):Int))]
    rw [u8_nat (by omega)]
   conv=>whnf
   refine ⟨trivial,?_⟩
   have e2:(part xs (digs n u) o (m - 1)).set (o+((m - 2:Nat):Int).toNat) ((48+k0 / 10:Nat):Int)=part xs (digs n u) o (m - 2):=by
    rw [Int.toNat_natCast]
    have:=part_step (xs:=xs) (n:=n) (u:=u) (o:=o) (m:=m - 2) (p:=1) (y:=((48+k0 / 10:Nat):Int)) hlen (by omega) ?_
    ·rw [show m - 2+1=m - 1 by omega] at this
     exact this
    rw [show m - 2+1+1=m by omega,← hv]
    omega
   rw [e2]
   conv=>whnf
   rw [nadd (k1*2) 1,nwrap32 (n:=k1*2+1) (by omega)]
   refine ⟨_,si_lo (k:=k1) (by omega),?_⟩
   conv=>whnf
   refine ⟨_,si_hi (k:=k1) (by omega),?_⟩
   conv=>whnf
   rw [nsub (a:=m) (b:=3) (by omega),nwrapi (n:=m - 3) (by omega)]
   refine ⟨by omega,?_⟩
   conv=>whnf
   obtain ⟨z3,hz3⟩:=part_get (xs:=xs) (D:=digs n u) (o:=o) (m:=m - 2) (j:=m - 3) (by omega) (by omega) (by omega)
   refine ⟨z3,((48+k1 % 10:Nat):Int),hz3,?_,?_⟩
   ·show [CV.val (.int .u8 ((48+k1 % 10:Nat):Int))]=[CV.val (.int .u8 (((UInt8.ofNat (48+k1 % 10)).toNat:Nat):Int))]
    rw [u8_nat (by omega)]
   conv=>whnf
   refine ⟨trivial,?_⟩
   have e3:(part xs (digs n u) o (m - 2)).set (o+((m - 3:Nat):Int).toNat) ((48+k1 % 10:Nat):Int)=part xs (digs n u) o (m - 3):=by
    rw [Int.toNat_natCast]
    have:=part_step (xs:=xs) (n:=n) (u:=u) (o:=o) (m:=m - 3) (p:=2) (y:=((48+k1 % 10:Nat):Int)) hlen (by omega) ?_
    ·rw [show m - 3+1=m - 2 by omega] at this
     exact this
    rw [show m - 3+2+1=m by omega,← hv]
    omega
   rw [e3]
   conv=>whnf
   rw [nsub (a:=m) (b:=4) (by omega),nwrapi (n:=m - 4) (by omega)]
   refine ⟨by omega,?_⟩
   conv=>whnf
   obtain ⟨z4,hz4⟩:=part_get (xs:=xs) (D:=digs n u) (o:=o) (m:=m - 3) (j:=m - 4) (by omega) (by omega) (by omega)
   refine ⟨z4,((48+k1 / 10:Nat):Int),hz4,?_,?_⟩
   ·show [CV.val (.int .u8 ((48+k1 / 10:Nat):Int))]=[CV.val (.int .u8 (((UInt8.ofNat (48+k1 / 10)).toNat:Nat):Int))]
    rw [u8_nat (by omega)]
   conv=>whnf
   refine ⟨trivial,?_⟩
   have e4:(part xs (digs n u) o (m - 3)).set (o+((m - 4:Nat):Int).toNat) ((48+k1 / 10:Nat):Int)=part xs (digs n u) o (m - 4):=by
    rw [Int.toNat_natCast]
    have:=part_step (xs:=xs) (n:=n) (u:=u) (o:=o) (m:=m - 4) (p:=3) (y:=((48+k1 / 10:Nat):Int)) hlen (by omega) ?_
    ·rw [show m - 4+1=m - 3 by omega] at this
     exact this
    rw [show m - 4+3+1=m by omega,← hv]
    omega
   rw [e4]
   conv=>whnf
   refine ⟨⟨m - 4,by omega,by omega⟩,⟨[0],⟨rfl,⟨rfl,rfl,trivial⟩,rfl⟩,rfl,eq_i64 ?_,eq_u32 ?_,trivial⟩⟩
   ·rw [nsub (by omega),nwrapi (by omega)]
   rw [← pow_next (by omega) hm,← hv]
  have g4:m<4:=ge_f g4
  conv=>whnf
  exact ⟨⟨m,hm,g4⟩,⟨[0],⟨rfl,⟨rfl,rfl,trivial⟩,rfl⟩,rfl,rfl,eq_u32 (by rw [hv]),trivial⟩⟩
 clear hv8 hvm hvu hv v
 rintro ⟨m,hm,hm4⟩
 obtain ⟨v,hv⟩:∃ v,v=u / 10 ^ (n - m):=⟨_,rfl⟩
 have hvm:v<10 ^ m:=by rw [hv]; exact last_small hun hm
 have hv8:v<10000:=Nat.lt_of_lt_of_le hvm (Nat.pow_le_pow_right (by omega) (show m≤4 by omega))
 conv=>whnf
 refine Or.inr ⟨{q:Nat // q≤n∧q<2},fun ⟨q,_⟩=>⟨[(0,.o (.c (.sli 0 1 o n c))),(4,.o (.c (.val (.int .i64 q)))),(12,.o (.c (.val (.int .u32 (u / 10 ^ (n - q):Nat)))))],[arrB T (part xs (digs n u) o q)]⟩,?_,?_⟩
 ·conv=>whnf
  rw [← hv]
  refine ⟨fun g4 => ?_,fun g4 => ?_⟩
  ·have g4:2≤m:=ge_t g4
   conv=>whnf
   rw [ntmod v 100,ntdiv v 100,nwrap32 (n:=v / 100) (by omega),nmul (v % 100) 2,nwrap32 (n:=v % 100*2) (by omega)]
   obtain ⟨k0,hk0⟩:∃ y,y=v % 100:=⟨_,rfl⟩
   rw [← hk0]
   conv=>whnf
   rw [nadd (k0*2) 1,nwrap32 (n:=k0*2+1) (by omega)]
   refine ⟨_,si_lo (k:=k0) (by omega),?_⟩
   conv=>whnf
   refine ⟨_,si_hi (k:=k0) (by omega),?_⟩
   conv=>whnf
   rw [nsub (a:=m) (b:=1) (by omega),nwrapi (n:=m - 1) (by omega)]
   refine ⟨by omega,?_⟩
   conv=>whnf
   obtain ⟨z1,hz1⟩:=part_get (xs:=xs) (D:=digs n u) (o:=o) (m:=m - 0) (j:=m - 1) (by omega) (by omega) (by omega)
   refine ⟨z1,((48+k0 % 10:Nat):Int),hz1,?_,?_⟩
   ·show [CV.val (.int .u8 ((48+k0 % 10:Nat):Int))]=[CV.val (.int .u8 (((UInt8.ofNat (48+k0 % 10)).toNat:Nat):Int))]
    rw [u8_nat (by omega)]
   conv=>whnf
   refine ⟨trivial,?_⟩
   have e1:(part xs (digs n u) o m).set (o+((m - 1:Nat):Int).toNat) ((48+k0 % 10:Nat):Int)=part xs (digs n u) o (m - 1):=by
    rw [Int.toNat_natCast]
    have:=part_step (xs:=xs) (n:=n) (u:=u) (o:=o) (m:=m - 1) (p:=0) (y:=((48+k0 % 10:Nat):Int)) hlen (by omega) ?_
    ·rw [show m - 1+1=m by omega] at this
     exact this
    rw [show m - 1+0+1=m by omega,← hv]
    omega
   rw [e1]
   conv=>whnf
   rw [nsub (a:=m) (b:=2) (by omega),nwrapi (n:=m - 2) (by omega)]
   refine ⟨by omega,?_⟩
   conv=>whnf
   obtain ⟨z2,hz2⟩:=part_get (xs:=xs) (D:=digs n u) (o:=o) (m:=m - 1) (j:=m - 2) (by omega) (by omega) (by omega)
   refine ⟨z2,((48+k0 / 10:Nat):Int),hz2,?_,?_⟩
   ·show [CV.val (.int .u8 ((48+k0 / 10:Nat):Int))]=[CV.val (.int .u8 (((UInt8.ofNat (48+k0 / 10)).toNat:Nat):Int))]
    rw [u8_nat (by omega)]
   conv=>whnf
   refine ⟨trivial,?_⟩
   have e2:(part xs (digs n u) o (m - 1)).set (o+((m - 2:Nat):Int).toNat) ((48+k0 / 10:Nat):Int)=part xs (digs n u) o (m - 2):=by
    rw [Int.toNat_natCast]
    have:=part_step (xs:=xs) (n:=n) (u:=u) (o:=o) (m:=m - 2) (p:=1) (y:=((48+k0 / 10:Nat):Int)) hlen (by omega) ?_
    ·rw [show m - 2+1=m - 1 by omega] at this
     exact this
    rw [show m - 2+1+1=m by omega,← hv]
    omega
   rw [e2]
   conv=>whnf
   refine ⟨⟨m - 2,by omega,by omega⟩,⟨[0],⟨rfl,⟨rfl,rfl,trivial⟩,rfl⟩,rfl,eq_i64 ?_,eq_u32 ?_,trivial⟩⟩
   ·rw [nsub (by omega),nwrapi (by omega)]
   rw [← pow_next (by omega) hm,← hv]
  have g4:m<2:=ge_f g4
  conv=>whnf
  exact ⟨⟨m,hm,g4⟩,⟨[0],⟨rfl,⟨rfl,rfl,trivial⟩,rfl⟩,rfl,rfl,eq_u32 (by rw [hv]),trivial⟩⟩
 clear hv8 hvm hv v
 rintro ⟨m,hm,hm4⟩
 obtain ⟨v,hv⟩:∃ v,v=u / 10 ^ (n - m):=⟨_,rfl⟩
 have hvm:v<10 ^ m:=by rw [hv]; exact last_small hun hm
 have hv8:v<10:=Nat.lt_of_lt_of_le hvm (Nat.pow_le_pow_right (by omega) (show m≤1 by omega))
 conv=>whnf
 rw [← hv]
 refine ⟨fun g4 => ?_,fun g4 => ?_⟩
 ·have g4:0<m:=gt_t g4
  obtain rfl:m=1:=by omega
  conv=>whnf
  refine ⟨by omega,?_⟩
  conv=>whnf
  obtain ⟨z,hz⟩:=part_get (xs:=xs) (D:=digs n u) (o:=o) (m:=1) (j:=0) (by omega) (by omega) (by omega)
  refine ⟨z,((48+v:Nat):Int),hz,?_,?_⟩
  ·show [CV.val (.int .u8 ((48+v:Nat):Int))]=[CV.val (.int .u8 (IntKind.u8.wrap (IntKind.u32.wrap (((48:Nat):Int)+(v:Int)))))]
   rw [nadd,nwrap32 (by omega),nwrap8 (by omega)]
  conv=>whnf
  refine Or.inl ⟨rfl,?_⟩
  have:=part_step (xs:=xs) (n:=n) (u:=u) (o:=o) (m:=0) (p:=0) (y:=((48+v:Nat):Int)) hlen (by omega) (by rw [show n - (0+0+1)=n - 1 by omega,← hv,Nat.pow_zero,Nat.div_one]; omega)
  rw [← this]
  rfl
 have g4:m≤0:=gt_f g4
 obtain rfl:m=0:=by omega
 conv=>whnf
 exact Or.inl ⟨rfl,rfl⟩
theorem strOf_size' (l:List Int):(strOf l).size=l.length:=by
 have:∀ (l:List Int) (r:ByteArray),(l.foldl (fun r n=>r.push (UInt8.ofNat n.toNat)) r).size=r.size+l.length:=by
  intro l
  induction l with
  | nil=>intro r; rfl
  | cons x l ih =>
   intro r
   rw [List.foldl_cons,ih,ByteArray.size_push,List.length_cons]
   omega
 rw [strOf,this]
 show 0+l.length=l.length
 omega
def fmtL (x:Int):List Int :=
 if x<0 then 45::digs (ndig x.natAbs) x.natAbs
 else if x<10 then digs 1 x.toNat
 else if x<100 then digs 2 x.toNat
 else digs (ndig x.natAbs) x.natAbs
theorem fmtL_len {x:Int} (h:x.natAbs<18446744073709551616):(fmtL x).length≤21:=by
 have:=ndig_le h
 unfold fmtL
 split
 ·rw [List.length_cons,digs_len]; omega
 split
 ·rw [digs_len]; omega
 split
 ·rw [digs_len]; omega
 rw [digs_len]; omega
theorem arr_part (D:List Int):part (List.replicate 24 0) D 1 0=0::(D++(List.replicate 24 (0:Int)).drop (1+D.length)):=rfl
theorem iFmtIntW (w0:World) (hp:pows w0) {x:Int} (h1:-9223372036854775808≤x) (h2:x<9223372036854775808):CallsA Tryz.prog w0 73 [.c (.val (.int .i64 x)),.c (.val (.int .i64 ((10:Nat):Int)))] [] fun r H=>r = .o (.c (.val (.string (strOf (fmtL x)))))∧H=[]:=by
 refine callsA_of_ev c73_ ?_
 conv=>whnf
 refine Or.inl ?_
 conv=>whnf
 refine ⟨fun _=>?_,fun g=>absurd g (by decide)⟩
 conv=>whnf
 refine Or.inr ⟨{_q:Unit // ¬ (0≤x∧x<100)},fun _=>⟨[(0,.o (.c (.val (.int .i64 x))))],[]⟩,?_,?_⟩
 ·have hsm:0≤x→x<100→CallsA Tryz.prog w0 96 [.c (.val (.int .i64 x))] [] fun r H'=>r = .o (.c (.val (.string (strOf (fmtL x)))))∧H'=[]:=by
   intro g1 g2
   have:=smallW w0 [] (n:=x.toNat) (by omega)
   rw [Int.toNat_of_nonneg g1] at this
   have e:(if x.toNat<10 then digs 1 x.toNat else digs 2 x.toNat)=fmtL x:=by
    unfold fmtL
    rw [if_neg (show ¬ x<0 by omega)]
    by_cases h:x<10
    ·rw [if_pos (show x.toNat<10 by omega),if_pos h]
    rw [if_neg (show ¬ x.toNat<10 by omega),if_neg h,if_pos g2]
   rw [e] at this
   exact this
  conv=>whnf
  refine ⟨fun g => ?_,fun g => ?_⟩
  ·have g:(0:Int)≤x:=of_decide_eq_true g
   conv=>whnf
   refine ⟨fun g2 => ?_,fun g2 => ?_⟩
   ·have g2:x<100:=of_decide_eq_true g2
    conv=>whnf
    refine (hsm g g2).mono ?_
    rintro _ _ ⟨rfl,rfl⟩
    conv=>whnf
    exact Or.inl ⟨rfl,rfl⟩
   have g2:¬ x<100:=of_decide_eq_false g2
   conv=>whnf
   exact ⟨⟨(),fun h=>g2 h.2⟩,[],⟨rfl,trivial,rfl⟩,rfl,trivial⟩
  have g:¬ (0:Int)≤x:=of_decide_eq_false g
  conv=>whnf
  exact ⟨⟨(),fun h=>g h.1⟩,[],⟨rfl,trivial,rfl⟩,rfl,trivial⟩
 rintro ⟨⟨⟩,hx⟩
 obtain ⟨u,hu⟩:∃ u,u=x.natAbs:=⟨_,rfl⟩
 obtain ⟨nd,hnd⟩:∃ nd,nd=ndig u:=⟨_,rfl⟩
 have hu2:u<18446744073709551616:=by omega
 have hnd20:nd≤20:=by rw [hnd]; exact ndig_le hu2
 have hnd1:1≤nd:=by rw [hnd]; exact ndig_pos (by omega) hu2
 have hun:u<10 ^ nd:=by rw [hnd]; exact lt_ndig hu2
 have hrep:(List.replicate 24 (0:Int)).length=24:=List.length_replicate
 have hb10:=base10W w0 (T:=142) (xs:=List.replicate 24 0) (o:=1) (n:=nd) (c:=23) (u:=u) (by omega) hnd20 hu2 hun
 have hdl:=digs_len nd u
 conv=>whnf
 refine Or.inr ⟨Int,encI .u8,[],1,List.replicate 24 0,by omega,fun _=>rfl,rfl,by rw [hrep]; omega,?_⟩
 conv=>whnf
 refine Or.inr ⟨Unit,fun _=>⟨[(0,.o (.c (.val (.int .i64 x)))),(5,.o (.c (.ptr 0 0))),(6,.o (.c (.val (.int .u64 u))))],[arrB 142 (List.replicate 24 0)]⟩,?_,?_⟩
 ·conv=>whnf
  refine ⟨fun g => ?_,fun g => ?_⟩
  ·have g:x<0:=of_decide_eq_true g
   conv=>whnf
   refine ⟨(),[0],⟨rfl,⟨rfl,rfl,trivial⟩,rfl⟩,rfl,rfl,eq_u64 ?_,trivial⟩
   rw [IntKind.wrap_u64,IntKind.wrap_u64]
   omega
  have g:¬ x<0:=of_decide_eq_false g
  conv=>whnf
  refine ⟨(),[0],⟨rfl,⟨rfl,rfl,trivial⟩,rfl⟩,rfl,rfl,eq_u64 ?_,trivial⟩
  rw [IntKind.wrap_u64]
  omega
 rintro ⟨⟩
 conv=>whnf
 refine (numDigitsW w0 _ hp hu2).mono ?_
 rintro _ _ ⟨rfl,rfl⟩
 rw [← hnd]
 conv=>whnf
 rw [nadd 1 nd,nwrapi (n:=1+nd) (by omega)]
 refine ⟨⟨⟨by omega,by omega,by omega⟩,by omega⟩,?_⟩
 conv=>whnf
 have e1:((1+nd:Nat):Int).toNat - ((1:Nat):Int).toNat=nd:=by omega
 rw [e1]
 refine hb10.mono ?_
 rintro _ _ ⟨rfl,rfl⟩
 rw [arr_part]
 conv=>whnf
 refine Or.inl ?_
 conv=>whnf
 refine ⟨fun g => ?_,fun g => ?_⟩
 ·have g:x<0:=of_decide_eq_true g
  conv=>whnf
  refine ⟨by omega,?_⟩
  conv=>whnf
  refine ⟨0,45,rfl,rfl,?_⟩
  conv=>whnf
  rw [nadd 1 nd,nwrapi (n:=1+nd) (by omega)]
  refine ⟨⟨⟨by omega,by omega⟩,by omega⟩,Or.inl ?_⟩
  conv=>whnf
  refine ⟨trivial,45::digs nd u,⟨rfl,rfl,?_,?_,?_⟩,?_⟩
  ·show 0+((1+nd:Nat):Int).toNat≤(45::(digs nd u++(List.replicate 24 (0:Int)).drop (1+(digs nd u).length))).length
   rw [List.length_cons,List.length_append]
   omega
  ·show (45::digs nd u).length=_
   rw [List.length_cons]
   omega
  ·show flat (encI .u8) [] _=flat (encI .u8) [] (List.take ((1+nd:Nat):Int).toNat (45::(digs nd u++(List.replicate 24 (0:Int)).drop (1+(digs nd u).length))))
   rw [Int.toNat_natCast,Nat.add_comm,List.take_succ_cons,List.take_append_of_le_length (by omega),List.take_of_length_le (by omega)]
  conv=>whnf
  refine Or.inr ⟨[],.o (.c (.val (.string (strOf (fmtL x))))),[],⟨rfl,trivial,rfl⟩,?_,rfl,rfl⟩
  unfold fmtL
  rw [if_pos g,← hu,← hnd]
  rfl
 have g:¬ x<0:=of_decide_eq_false g
 conv=>whnf
 rw [nadd 1 nd,nwrapi (n:=1+nd) (by omega)]
 refine ⟨⟨⟨by omega,by omega,by omega⟩,by omega⟩,?_⟩
 conv=>whnf
 rw [e1]
 refine ⟨trivial,digs nd u,⟨rfl,rfl,?_,hdl,?_⟩,?_⟩
 ·show 1+nd≤(0::(digs nd u++(List.replicate 24 (0:Int)).drop (1+(digs nd u).length))).length
  rw [List.length_cons,List.length_append]
  omega
 ·show flat (encI .u8) [] _=flat (encI .u8) [] (List.take nd (digs nd u++(List.replicate 24 (0:Int)).drop (1+(digs nd u).length)))
  rw [List.take_append_of_le_length (by omega),List.take_of_length_le (by omega)]
 conv=>whnf
 refine Or.inr ⟨[],.o (.c (.val (.string (strOf (fmtL x))))),[],⟨rfl,trivial,rfl⟩,?_,rfl,rfl⟩
 unfold fmtL
 rw [if_neg g,if_neg (show ¬ x<10 by omega),if_neg (show ¬ x<100 by omega),← hu,← hnd]
 rfl
theorem fmtIntW (w0:World) (hp:pows w0) {x:Int} (h1:-9223372036854775808≤x) (h2:x<9223372036854775808):CallsA Tryz.prog w0 28 [.c (.val (.int .i64 x)),.c (.val (.int .i64 ((10:Nat):Int)))] [] fun r H=>r = .o (.c (.val (.string (strOf (fmtL x)))))∧H=[]:=by
 refine callsA_of_ev c28_ ?_
 conv=>whnf
 refine (iFmtIntW w0 hp h1 h2).mono ?_
 rintro _ _ ⟨rfl,rfl⟩
 conv=>whnf
 exact Or.inl ⟨rfl,rfl⟩
theorem strOf_fold' (b:List Int):∀ r:ByteArray,b.foldl (fun r n=>r.push (UInt8.ofNat n.toNat)) r=r++strOf b:=by
 induction b with
 | nil =>
  intro r
  show r=r++ByteArray.empty
  rw [ByteArray.append_empty]
 | cons x t ih =>
  intro r
  show t.foldl _ (r.push _)=r++t.foldl _ (ByteArray.empty.push _)
  rw [ih,ih,← ByteArray.append_assoc]
  congr 1
  apply ByteArray.ext
  simp
theorem strOf_append' (a b:List Int):strOf (a++b)=strOf a++strOf b:=by
 show (a++b).foldl _ ByteArray.empty=_
 rw [List.foldl_append,strOf_fold']
 rfl
def numL (x:Int):List Int:=fmtL x++[32]
def numsL (ys:List Int):List Int:=91::ys.flatMap numL++[93]
theorem numL_len:∀ {l:List Int},(∀ x∈l,x.natAbs<18446744073709551616)→(l.flatMap numL).length≤22*l.length
 | [],_=>Nat.zero_le _
 | x::l,h=>by
  have h1:=numL_len (l:=l) fun y hy=>h y (List.mem_cons_of_mem _ hy)
  have h2:=fmtL_len (x:=x) (h x (List.mem_cons_self ..))
  rw [List.flatMap_cons,List.length_append,List.length_cons]
  unfold numL at h1 ⊢
  rw [List.length_append]
  show _+1+_≤_
  omega
theorem numsM (w0:World) (hp:pows w0) {ys:List Int} {a:Addr} {c:Nat} (hb:∀ (i:Nat) x,ys[i]? = some x→w0.cell? (a.add (i*1))=some (.int .i16 x)) (hl:ys.length≤1099511627776) (hx:∀ x∈ys,S16 x):CallsA Tryz.prog w0 15 [.c (.val (.slice (some a) ys.length c))] [] fun r H=>r = .o (.c (.val (.string (strOf (numsL ys)))))∧H=[]:=by
 refine callsA_of_ev c15_ ?_
 conv=>whnf
 refine Or.inl ?_
 conv=>whnf
 refine ⟨_root_.Fin (ys.length+1),fun ⟨j,_⟩=>⟨[(3,.o (.c (.val (.string (strOf (91::(ys.take j).flatMap numL)))))),(6,.o (.c (.val (.slice (some a) ys.length c)))),(7,.o (.c (.val (.int .i64 ys.length)))),(8,.o (.c (.val (.int .i64 j))))],[]⟩,fun j=>ys.length - j.1,⟨⟨0,by omega⟩,[],⟨rfl,trivial,rfl⟩,rfl,rfl,rfl,rfl,trivial⟩,fun ⟨j,hj⟩ => ?_⟩
 conv=>whnf
 refine ⟨fun h3 => ?_,fun h3 => ?_⟩
 ·have h3:j<ys.length:=lt_t h3
  obtain ⟨x,hxj⟩:∃ x,ys[j]? = some x:=⟨_,List.getElem?_eq_getElem h3⟩
  obtain ⟨hx1,hx2⟩:-9223372036854775808≤x∧x<9223372036854775808:=by have:=hx x (List.mem_of_getElem? hxj); unfold S16 at this; omega
  have hxn:∀ y∈ys.take j,y.natAbs<18446744073709551616:=by
   intro y hy
   have:=hx y (List.mem_of_mem_take hy)
   unfold S16 at this
   omega
  have hsz:=numL_len hxn
  have hfl:=fmtL_len (x:=x) (by omega)
  have hlt:(ys.take j).length≤j:=by rw [List.length_take]; omega
  conv=>whnf
  refine Or.inl ?_
  conv=>whnf
  refine ⟨by omega,?_⟩
  conv=>whnf
  refine ⟨_,hb j x hxj,rfl,?_⟩
  conv=>whnf
  refine Or.inr ⟨Unit,fun _=>⟨[(3,.o (.c (.val (.string (strOf (91::(ys.take j).flatMap numL)))))),(5,.o (.c (.val (.int .i16 x)))),(6,.o (.c (.val (.slice (some a) ys.length c)))),(7,.o (.c (.val (.int .i64 ys.length)))),(8,.o (.c (.val (.int .i64 j))))],[]⟩,?_,?_⟩
  ·conv=>whnf
   refine ⟨fun g => ?_,fun g => ?_⟩
   ·have g:9223372036854775808≤IntKind.u64.wrap x:=of_decide_eq_true g
    rw [IntKind.wrap_u64] at g
    conv=>whnf
    refine ⟨fun g2=>absurd (show (0:Int)<x from of_decide_eq_true g2) (by omega),fun _=>?_⟩
    conv=>whnf
    exact ⟨(),[],⟨rfl,trivial,rfl⟩,rfl,rfl,rfl,rfl,rfl,trivial⟩
   conv=>whnf
   exact ⟨(),[],⟨rfl,trivial,rfl⟩,rfl,rfl,rfl,rfl,rfl,trivial⟩
  rintro ⟨⟩
  conv=>whnf
  rw [show IntKind.i64.wrap x=x from wi64 (by omega)]
  refine (CallsA_frame rfl rfl (fmtIntW w0 hp hx1 hx2) _).mono ?_
  rintro _ _ ⟨rfl,rfl⟩
  conv=>whnf
  refine ⟨?_,?_⟩
  ·show (strOf (fmtL x)).size+(ByteArray.mk #[32]).size≤9223372036854775807
   rw [strOf_size']
   show (fmtL x).length+1≤_
   omega
  conv=>whnf
  refine ⟨?_,?_⟩
  ·show (strOf (91::(ys.take j).flatMap numL)).size+(strOf (fmtL x)++strOf [32]).size≤9223372036854775807
   rw [← strOf_append',strOf_size',strOf_size',List.length_append,List.length_cons]
   show _+1+(_+1)≤_
   omega
  conv=>whnf
  refine ⟨⟨j+1,by omega⟩,⟨[],⟨rfl,trivial,rfl⟩,?_,rfl,rfl,eq_i64 ?_,trivial⟩,?_⟩
  ·show some (AV.o (.c (.val (.string (strOf (91::(ys.take j).flatMap numL)++(strOf (fmtL x)++strOf [32]))))))=some (AV.o (.c (.val (.string (strOf (91::(ys.take (j+1)).flatMap numL))))))
   rw [← strOf_append',← strOf_append',List.cons_append,List.take_add_one,hxj]
   rw [show some x=some x from rfl,Option.toList_some,List.flatMap_append,List.flatMap_singleton]
   rfl
  ·rw [nadd,nwrapi (by omega)]
  show ys.length - (j+1)<ys.length - j
  omega
 have h3:ys.length≤j:=lt_f h3
 rw [List.take_of_length_le h3]
 have hxn:∀ y∈ys,y.natAbs<18446744073709551616:=by
  intro y hy
  have:=hx y hy
  unfold S16 at this
  omega
 have hsz:=numL_len hxn
 conv=>whnf
 refine ⟨?_,?_⟩
 ·show (strOf (91::ys.flatMap numL)).size+1≤9223372036854775807
  rw [strOf_size',List.length_cons]
  omega
 conv=>whnf
 refine Or.inl ⟨?_,rfl⟩
 show AV.o (.c (.val (.string (strOf (91::ys.flatMap numL)++strOf [93]))))=_
 rw [← strOf_append']
 rfl
theorem numsAt (w0:World) (hp:pows w0) {v:Value} {ys:List Int} (hv:smpAt w0 v ys) (hl:ys.length≤1099511627776):CallsA Tryz.prog w0 15 [.c (.val v)] [] fun r H=>r = .o (.c (.val (.string (strOf (numsL ys)))))∧H=[]:=by
 rcases hv with ⟨rfl,rfl⟩ | ⟨a,c,rfl,h1,h2,h3⟩
 ·refine callsA_of_ev c15_ ?_
  conv=>whnf
  refine Or.inl ?_
  conv=>whnf
  refine ⟨Unit,fun _=>⟨[(3,.o (.c (.val (.string (ByteArray.mk #[91]))))),(6,.o (.c (.val (.slice none 0 0)))),(7,.o (.c (.val (.int .i64 ((0:Nat):Int))))),(8,.o (.c (.val (.int .i64 ((0:Nat):Int)))))],[]⟩,fun _=>0,⟨(),[],⟨rfl,trivial,rfl⟩,rfl,rfl,rfl,rfl,trivial⟩,fun _=>?_⟩
  conv=>whnf
  refine ⟨fun g=>absurd g (by decide),fun _=>?_⟩
  conv=>whnf
  refine ⟨by decide,?_⟩
  conv=>whnf
  exact Or.inl ⟨rfl,rfl⟩
 exact numsM w0 hp (fun i x hx=>(h3 i x hx).2) hl (fun x hx=>by
  obtain ⟨i,hi⟩:=List.mem_iff_getElem?.1 hx
  exact (h3 i x hi).1)
def rowsL (yss:List (List Int)):List Int:=91::yss.flatMap numsL++[93]
theorem numsL_len {l:List Int} (h:∀ x∈l,x.natAbs<18446744073709551616):(numsL l).length≤22*l.length+2:=by
 have:=numL_len h
 unfold numsL
 rw [List.length_append,List.length_cons]
 show _+1+1≤_
 omega
theorem rowsL_len:∀ {l:List (List Int)} {n:Nat},(∀ y∈l,y.length≤n ∧ ∀ x∈y,x.natAbs<18446744073709551616)→(l.flatMap numsL).length≤l.length*(22*n+2)
 | [],_,_=>Nat.zero_le _
 | y::r,n,h=>by
  have h1:=rowsL_len (l:=r) (n:=n) fun z hz=>h z (List.mem_cons_of_mem _ hz)
  obtain ⟨h2,h3⟩:=h y (List.mem_cons_self ..)
  have h4:=numsL_len h3
  rw [List.flatMap_cons,List.length_append,List.length_cons,Nat.succ_mul]
  omega
theorem rowsW (w0:World) (hp:pows w0) {A:Option Addr} {ys:List (Value × List Int)} {c:Nat} (hv:srowsAt w0 A ys) (hl:ys.length≤1000) (hin:∀ x∈ys,x.2.length≤1000000) :
 CallsA Tryz.prog w0 8 [.c (.val (.slice A ys.length c))] [] fun r H=>r = .o (.c (.val (.string (strOf (rowsL (ys.map (·.2)))))))∧H=[]:=by
 have hb64:∀ x∈ys,∀ z∈x.2,z.natAbs<18446744073709551616:=by
  intro x hx z hz
  obtain ⟨i,hi⟩:=List.mem_iff_getElem?.1 hx
  obtain ⟨a,_,_,hii⟩:=hv.at_ i x hi
  rcases hii with ⟨_,h⟩ | ⟨_,_,_,_,_,h⟩
  ·rw [h] at hz; cases hz
  obtain ⟨k,hk⟩:=List.mem_iff_getElem?.1 hz
  have:=(h k z hk).1
  unfold S16 at this
  omega
 have hsz:∀ j,j≤ys.length→(((ys.take j).map (·.2)).flatMap numsL).length≤1000*(22*1000000+2):=by
  intro j hj
  have:=rowsL_len (l:=(ys.take j).map (·.2)) (n:=1000000) (by
   intro y hy
   obtain ⟨x,hx,rfl⟩:=List.mem_map.1 hy
   have hx:=List.mem_of_mem_take hx
   exact ⟨hin x hx,hb64 x hx⟩)
  rw [List.length_map,List.length_take] at this
  have h2:min j ys.length≤1000:=by omega
  exact Nat.le_trans this (Nat.mul_le_mul_right _ h2)
 refine callsA_of_ev c8_ ?_
 conv=>whnf
 refine Or.inl ?_
 conv=>whnf
 refine ⟨_root_.Fin (ys.length+1),fun ⟨j,_⟩=>⟨[(3,.o (.c (.val (.string (strOf (91::((ys.take j).map (·.2)).flatMap numsL)))))),(6,.o (.c (.val (.slice A ys.length c)))),(7,.o (.c (.val (.int .i64 ys.length)))),(8,.o (.c (.val (.int .i64 j))))],[]⟩,fun j=>ys.length - j.1,⟨⟨0,by omega⟩,[],⟨rfl,trivial,rfl⟩,rfl,rfl,rfl,rfl,trivial⟩,fun ⟨j,hj⟩ => ?_⟩
 have hszj:=hsz j (by omega)
 conv=>whnf
 refine ⟨fun h3 => ?_,fun h3 => ?_⟩
 ·have h3:j<ys.length:=lt_t h3
  obtain ⟨⟨z,zs⟩,hxj⟩:∃ x,ys[j]? = some x:=⟨_,List.getElem?_eq_getElem h3⟩
  obtain ⟨a,rfl,hxc,hzs⟩:=hv.at_ j _ hxj
  have hzl:=hin _ (List.mem_of_getElem? hxj)
  have hzb:=hb64 _ (List.mem_of_getElem? hxj)
  simp only at hxc hzs hzl hzb
  have hz1:z.oneCell'=true:=by rcases hzs with ⟨rfl,_⟩ | ⟨_,_,rfl,_⟩ <;> rfl
  have hnl:=numsL_len hzb
  conv=>whnf
  refine ⟨by omega,?_⟩
  conv=>whnf
  refine ⟨_,hxc,hz1,?_⟩
  conv=>whnf
  refine (numsAt w0 hp hzs (by omega)).mono ?_
  rintro _ _ ⟨rfl,rfl⟩
  conv=>whnf
  refine ⟨?_,?_⟩
  ·show (strOf (91::((ys.take j).map (·.2)).flatMap numsL)).size+(strOf (numsL zs)).size≤9223372036854775807
   rw [strOf_size',strOf_size',List.length_cons]
   omega
  conv=>whnf
  refine ⟨⟨j+1,by omega⟩,⟨[],⟨rfl,trivial,rfl⟩,?_,rfl,rfl,eq_i64 ?_,trivial⟩,?_⟩
  ·show some (AV.o (.c (.val (.string (strOf (91::((ys.take j).map (·.2)).flatMap numsL)++strOf (numsL zs))))))=some (AV.o (.c (.val (.string (strOf (91::((ys.take (j+1)).map (·.2)).flatMap numsL))))))
   rw [← strOf_append',List.cons_append,List.take_add_one,hxj]
   rw [Option.toList_some,List.map_append,List.flatMap_append,List.map_cons,List.map_nil,List.flatMap_singleton]
  ·rw [nadd,nwrapi (by omega)]
  show ys.length - (j+1)<ys.length - j
  omega
 have h3:ys.length≤j:=lt_f h3
 rw [List.take_of_length_le h3] at hszj ⊢
 conv=>whnf
 refine ⟨?_,?_⟩
 ·show (strOf (91::(ys.map (·.2)).flatMap numsL)).size+1≤9223372036854775807
  rw [strOf_size',List.length_cons]
  omega
 conv=>whnf
 refine Or.inl ⟨?_,rfl⟩
 show AV.o (.c (.val (.string (strOf (91::(ys.map (·.2)).flatMap numsL)++strOf [93]))))=_
 rw [← strOf_append']
 rfl
theorem zz12W (w0:World) {A:Option Addr} {ys:List (Value × List Int)} {c:Nat} (hv:srowsAt w0 A ys) :
 CallsA Tryz.prog w0 4 [.c (.val (.slice A ys.length c))] [] fun r H=>(∃ b:Bool,r = .o (.c (.val (.bool b)))∧(b=true→ys.length≤2147483647 ∧ ∀ x∈ys,x.2.length≤2147483647))∧H=[]:=by
 refine callsA_of_ev c4_ ?_
 conv=>whnf
 refine Or.inl ?_
 conv=>whnf
 refine ⟨fun _=>?_,fun g => ?_⟩
 ·conv=>whnf
  exact Or.inl ⟨⟨_,rfl,fun h=>by cases h⟩,rfl⟩
 have g:ys.length≤2147483647:=gt_f g
 conv=>whnf
 refine Or.inl ?_
 conv=>whnf
 refine ⟨{j:Nat // j≤ys.length ∧ ∀ x∈ys.take j,x.2.length≤2147483647},fun ⟨j,_⟩=>⟨[(8,.o (.c (.val (.slice A ys.length c)))),(9,.o (.c (.val (.int .i64 ys.length)))),(10,.o (.c (.val (.int .i64 j))))],[]⟩,fun j=>ys.length - j.1,⟨⟨0,by omega,fun x hx=>by cases hx⟩,[],⟨rfl,trivial,rfl⟩,rfl,rfl,rfl,trivial⟩,fun ⟨j,hj,hjx⟩ => ?_⟩
 conv=>whnf
 refine ⟨fun h3 => ?_,fun h3 => ?_⟩
 ·have h3:j<ys.length:=lt_t h3
  obtain ⟨⟨z,zs⟩,hxj⟩:∃ x,ys[j]? = some x:=⟨_,List.getElem?_eq_getElem h3⟩
  obtain ⟨a,rfl,hxc,hzs⟩:=hv.at_ j _ hxj
  simp only at hxc hzs
  obtain ⟨Az,cz,rfl⟩:∃ A c,z = .slice A zs.length c:=by
   rcases hzs with ⟨rfl,rfl⟩ | ⟨a,c,rfl,_⟩
   ·exact ⟨none,0,rfl⟩
   exact ⟨_,_,rfl⟩
  conv=>whnf
  refine Or.inl ?_
  conv=>whnf
  refine ⟨by omega,?_⟩
  conv=>whnf
  refine ⟨_,hxc,rfl,?_⟩
  conv=>whnf
  refine ⟨fun _=>?_,fun g2 => ?_⟩
  ·conv=>whnf
   exact Or.inl ⟨⟨_,rfl,fun h=>by cases h⟩,rfl⟩
  have g2:zs.length≤2147483647:=gt_f g2
  conv=>whnf
  refine ⟨⟨j+1,by omega,fun x hx => ?_⟩,⟨[],⟨rfl,trivial,rfl⟩,rfl,rfl,eq_i64 ?_,trivial⟩,?_⟩
  ·rw [List.take_add_one,hxj] at hx
   rcases List.mem_append.1 hx with hx | hx
   ·exact hjx x hx
   have:x=(.slice Az zs.length cz,zs):=by simpa using hx
   rw [this]
   exact g2
  ·rw [nadd,nwrapi (by omega)]
  show ys.length - (j+1)<ys.length - j
  omega
 have h3:ys.length≤j:=lt_f h3
 rw [List.take_of_length_le h3] at hjx
 conv=>whnf
 exact Or.inl ⟨⟨_,rfl,fun _=>⟨g,hjx⟩⟩,rfl⟩
theorem all2_get {α β:Type} {R:α → β → Prop}:∀ {l:List α} {m:List β},All2 R l m → ∀ {i:Nat} {x:α},l[i]? = some x → ∃ y,m[i]? = some y∧R x y
 | _,_,.nil,i,x,h=>by simp at h
 | _,_,.cons h r,0,x,hx=>by simp at hx; subst hx; exact ⟨_,rfl,h⟩
 | _,_,.cons h r,i+1,x,hx=>by simpa using all2_get r (by simpa using hx)
theorem flat_ints (k:IntKind) (ys:List Int) (i:Nat):(flat (encI k) [] ys)[i]? = ys[i]?.map fun x=>CV.val (.int k x):=by
 have:flat (encI k) [] ys=ys.map fun x=>CV.val (.int k x):=by
  unfold flat
  induction ys with
  | nil=>rfl
  | cons x r ih=>rw [List.flatMap_cons,ih]; rfl
 rw [this,List.getElem?_map]
theorem fam_rows {w0:World} {ρ:Ren} {H:List Blk} {w:World} (hR:RH w0 ρ H w) {o f:Nat} {T TF:TypeId} {yss:List (List Int)} (ho:H[o]? = some (.vec true T encF [f] 1 (turns (yss.map List.length)))) (hf:H[f]? = some (.fam TF (encI .i16) 1 yss))
 {v:Value} (hv:(CV.vec o yss.length).R ρ v) (hb:∀ y∈yss,∀ x∈y,S16 x) (hl:yss.length≤9223372036854775807) :
 ∃ A c ys,v = .slice A ys.length c∧srowsAt w A ys∧ys.map (·.2)=yss:=by
 obtain ⟨e1,hρ,h0,hlen,h2⟩:=hR.get ho
 obtain ⟨ef,hρf,g0,g1,g2,ms,g3,g4,g5,g6⟩:=hR.get hf
 obtain ⟨e1',he1,hv⟩:=hv
 rw [hρ] at he1
 cases he1
 rcases hv with ⟨g,hg,rfl,hcap⟩ | ⟨hg,hn,rfl⟩
 ·rcases h2 with ⟨h2,_⟩ | ⟨g',arr,fz,k2,k3,k4,k5,k6,⟨sp,k7,k8⟩,k9⟩
  ·rw [hg] at h2; cases h2
  rw [hg] at k2
  cases k2
  have hcell:∀ (i:Nat) y,yss[i]? = some y → ∃ u,arr.toList[i]? = some u∧(CV.mem f i y.length).R ρ u:=by
   intro i y hy
   refine all2_get k7 ?_
   have hi:i<yss.length:=(List.getElem?_eq_some_iff.1 hy).1
   rw [List.getElem?_append_left (by rw [flat_turns,List.length_map,turns_len,List.length_map]; exact hi),flat_turns,List.getElem?_map,turns_get,List.getElem?_map,hy]
   rfl
  have hal:yss.length≤arr.toList.length:=by
   rw [← k7.length,List.length_append,flat_turns,List.length_map,turns_len,List.length_map]
   omega
  have hzl:(List.zip arr.toList yss).length=yss.length:=by rw [List.length_zip]; omega
  refine ⟨some ⟨g,0,none⟩,e1.2,List.zip arr.toList yss,by rw [hzl],⟨by omega,fun i x hx => ?_⟩,List.map_snd_zip hal⟩
  obtain ⟨u,y⟩:=x
  obtain ⟨hu,hy⟩:=List.getElem?_zip_eq_some.1 hx
  obtain ⟨u',hu',hm⟩:=hcell i y hy
  rw [hu] at hu'
  cases hu'
  refine ⟨_,rfl,?_,?_⟩
  ·rw [Nat.mul_one,addr_add,cell_at k3,Nat.zero_add,← Array.getElem?_toList]
   exact hu
  obtain ⟨ef',ms',m,q1,q2,q3,q4⟩:=hm
  rw [hρf] at q1
  cases q1
  have:=encM_inj (q2.trans g3.symm)
  subst this
  rcases g6 i m y q3 hy with ⟨r1,r2,_⟩ | ⟨gm,arrm,fzm,r1,r2,r3,r4,r5,spm,r6,r7⟩
  ·rcases q4 with ⟨gm,q5,_⟩ | ⟨_,_,rfl⟩
   ·rw [r1] at q5; cases q5
   exact .inl ⟨rfl,r2⟩
  rcases q4 with ⟨gm',q5,rfl,q6⟩ | ⟨q5,_⟩
  ·rw [r1] at q5
   cases q5
   refine .inr ⟨_,_,rfl,q6,r5,fun j z hz=>⟨hb y (List.mem_of_getElem? hy) z (List.mem_of_getElem? hz),?_⟩⟩
   obtain ⟨cz,hcz,hR2⟩:=all2_get (i:=j) (x:=CV.val (.int .i16 z)) r6 (by
    have hj:j<y.length:=(List.getElem?_eq_some_iff.1 hz).1
    have hfl:(flat (encI .i16) [] y).length=y.length:=by rw [flat_length (wd:=1) (fun _=>rfl),Nat.mul_one]
    rw [List.getElem?_append_left (by rw [hfl]; exact hj),flat_ints,hz]
    rfl)
   rw [Nat.mul_one,addr_add,cell_at r2,Nat.zero_add,← Array.getElem?_toList,hcz,hR2.1]
  rw [r1] at q5; cases q5
 have:yss=[]:=List.length_eq_zero_iff.1 hn
 subst this
 exact ⟨none,0,[],rfl,⟨Nat.zero_le _,fun i x hx=>by simp at hx⟩,rfl⟩
theorem pows.below {w0 w:World} (hp:pows w0) (hb:Go.RowKit.Below w0.heap.size w0 w):pows w:=fun i hi=>by
 have h:=hp i hi
 have hlt:=World.block_lt_of_cell? w0 _ h
 rw [hb.cell hlt]
 exact h
theorem rowsV (w0:World) (hp:pows w0) {H:List Blk} {o f:Nat} {T TF:TypeId} {yss:List (List Int)} (ho:H[o]? = some (.vec true T encF [f] 1 (turns (yss.map List.length)))) (hf:H[f]? = some (.fam TF (encI .i16) 1 yss))
 (hb:∀ y∈yss,∀ x∈y,S16 x) (hl:yss.length≤1000) (hin:∀ y∈yss,y.length≤1000000) :
 CallsA Tryz.prog w0 8 [.c (.vec o yss.length)] H fun r H'=>r = .o (.c (.val (.string (strOf (rowsL yss)))))∧H'=H:=by
 refine callsA_base (rowsW w0 hp (A:=none) (ys:=[]) (c:=0) ⟨Nat.zero_le _,fun i x hx=>by simp at hx⟩ (by simp) (by simp)).cal fun ρ w vs hR hA => ?_
 cases hA with
 | cons h1 h2 =>
  cases h2
  have h1:(CV.vec o yss.length).R ρ _:=h1
  obtain ⟨A,c,ys,rfl,hra,hys⟩:=fam_rows hR ho hf h1 hb (by omega)
  refine ⟨[.c (.val (.slice A ys.length c))],.cons ⟨rfl,rfl⟩ .nil,?_⟩
  have hlen:ys.length=yss.length:=by rw [← hys,List.length_map]
  have:=rowsW w (hp.below hR.base) hra (by omega) (c:=c) (fun x hx=>hin x.2 (by rw [← hys]; exact List.mem_map.2 ⟨x,hx,rfl⟩))
  rw [hys] at this
  exact this
def totL (fr:Nat):List (Value × List Int)→Nat
 | []=>0
 | x::r=>x.2.length / fr+totL fr r
theorem totL_snoc (fr:Nat):∀ (l:List (Value × List Int)) (x:Value × List Int),totL fr (l++[x])=totL fr l+x.2.length / fr
 | [],x=>by simp [totL]
 | y::l,x=>by rw [List.cons_append,totL,totL,totL_snoc fr l x,Nat.add_assoc]
theorem totL_mem (fr:Nat):∀ {l:List (Value × List Int)} {x:Value × List Int},x∈l→x.2.length / fr≤totL fr l
 | y::l,x,h=>by
  rcases List.mem_cons.1 h with rfl | h
  ·exact Nat.le_add_right _ _
  exact Nat.le_trans (totL_mem fr h) (Nat.le_add_left _ _)
theorem totL_le (fr:Nat):∀ {l:List (Value × List Int)},(∀ x∈l,x.2.length≤2147483647)→totL fr l≤l.length*2147483647
 | [],_=>Nat.zero_le _
 | y::l,h=>by
  have h1:=totL_le fr (l:=l) fun x hx=>h x (List.mem_cons_of_mem _ hx)
  have h2:=h y (List.mem_cons_self ..)
  have h3:=Nat.div_le_self y.2.length fr
  rw [List.length_cons,Nat.succ_mul,totL]
  omega
theorem ninc' {k:Nat} (h:k≤4294967296):IntKind.i64.wrap ((k:Int)+((1:Nat):Int))=((k+1:Nat):Int):=by rw [wi64 (by omega)]; omega
theorem piecesF (w0:World) {A:Option Addr} {ys:List (Value × List Int)} {c fr:Nat} (hfr:fr=8∨fr=12∨fr=16) (hv:srowsAt w0 A ys) (hn:ys.length≤2147483647) (hl:∀ x∈ys,x.2.length≤2147483647) :
 CallsA Tryz.prog w0 5 [.c (.val (.slice A ys.length c)),.c (.val (.int .i64 ((fr*1000:Nat):Int)))] []
  fun r H=>(∃ b:Bool,r = .o (.c (.val (.bool b)))∧(b=true→(∀ x∈ys,x.2≠[]∧x.2.length % fr=0∧x.2.length≤100*fr)∧ys.length≤12))∧H=[]:=by
 have e1:IntKind.i64.wrap (((fr*1000:Nat):Int).tdiv ((1000:Nat):Int))=(fr:Int):=by rw [ntdiv,wi64 (by omega)]; omega
 refine callsA_of_ev c5_ ?_
 conv=>whnf
 refine Or.inl ?_
 conv=>whnf
 refine ⟨{j:Nat // j≤ys.length ∧ ∀ x∈ys.take j,x.2≠[]∧x.2.length % fr=0},fun ⟨j,_⟩=>⟨[(0,.o (.c (.val (.slice A ys.length c)))),(1,.o (.c (.val (.int .i64 ((fr*1000:Nat):Int))))),(5,.o (.c (.val (.int .i64 (totL fr (ys.take j):Nat))))),(8,.o (.c (.val (.slice A ys.length c)))),(9,.o (.c (.val (.int .i64 ys.length)))),(10,.o (.c (.val (.int .i64 (j:Nat)))))],[]⟩,fun j=>ys.length - j.1,⟨⟨0,by omega,fun x hx=>by cases hx⟩,[],⟨rfl,trivial,rfl⟩,rfl,rfl,rfl,rfl,rfl,rfl,trivial⟩,fun ⟨j,hj,hjx⟩ => ?_⟩
 have ht:=totL_le fr (l:=ys.take j) fun x hx=>hl x (List.mem_of_mem_take hx)
 have htl:(ys.take j).length≤2147483647:=by rw [List.length_take]; omega
 have ht2:totL fr (ys.take j)≤2147483647*2147483647:=Nat.le_trans ht (Nat.mul_le_mul_right _ htl)
 clear ht
 by_cases h3:j<ys.length
 ·obtain ⟨⟨z,zs⟩,hxj⟩:∃ x,ys[j]? = some x:=⟨_,List.getElem?_eq_getElem h3⟩
  obtain ⟨a,rfl,hxc,hzs⟩:=hv.at_ j _ hxj
  have hzl:=hl _ (List.mem_of_getElem? hxj)
  simp only at hxc hzs hzl
  obtain ⟨Az,cz,rfl⟩:∃ A c,z = .slice A zs.length c:=by
   rcases hzs with ⟨rfl,rfl⟩ | ⟨a,c,rfl,_⟩
   ·exact ⟨none,0,rfl⟩
   exact ⟨_,_,rfl⟩
  have htk:ys.take (j+1)=ys.take j++[(.slice Az zs.length cz,zs)]:=by rw [List.take_add_one,hxj]; rfl
  conv=>whnf
  refine ⟨fun _=>?_,fun h=>absurd (lt_f h) (by omega)⟩
  conv=>whnf
  refine Or.inl ?_
  conv=>whnf
  refine ⟨⟨Int.natCast_nonneg _,Int.ofNat_lt.2 h3⟩,?_⟩
  conv=>whnf
  refine ⟨_,hxc,rfl,?_⟩
  conv=>whnf
  refine Or.inl ?_
  conv=>whnf
  refine ⟨fun h4 => ?_,fun h4 => ?_⟩
  ·conv=>whnf
   exact Or.inl ⟨⟨false,rfl,fun h=>by cases h⟩,rfl⟩
  have h4:=beq_f h4
  conv=>whnf
  rw [e1]
  refine ⟨(by omega),?_⟩
  conv=>whnf
  rw [ntmod]
  refine ⟨fun h5 => ?_,fun h5 => ?_⟩
  ·conv=>whnf
   exact Or.inl ⟨⟨false,rfl,fun h=>by cases h⟩,rfl⟩
  have h5:=bne_f h5
  conv=>whnf
  rw [e1]
  refine ⟨(by omega),?_⟩
  conv=>whnf
  rw [ntdiv]
  obtain ⟨d,hdq⟩:∃ d,d=zs.length / fr:=⟨_,rfl⟩
  have hd:d≤zs.length:=by rw [hdq]; exact Nat.div_le_self zs.length fr
  rw [← hdq,wi64 (n:=(d:Int)) (by omega),nadd (totL fr (ys.take j)) d,wi64 (n:=((totL fr (ys.take j)+d:Nat):Int)) (by omega),ninc' (by omega)]
  refine ⟨⟨j+1,h3,?_⟩,?_,Nat.sub_lt_sub_left h3 (Nat.lt_succ_self j)⟩
  ·intro x hx
   rw [htk] at hx
   rcases List.mem_append.1 hx with h | h
   ·exact hjx x h
   obtain rfl:x=_:=List.mem_singleton.1 h
   exact ⟨fun h=>h4 (congrArg List.length h),h5⟩
  have e5:totL fr (ys.take j)+d=totL fr (ys.take (j+1)):=by rw [htk,totL_snoc,← hdq]
  rw [e5]
  exact ⟨[],⟨rfl,trivial,rfl⟩,rfl,rfl,rfl,rfl,rfl,rfl,trivial⟩
 have hjl:j=ys.length:=by omega
 rw [hjl,List.take_length] at hjx
 have htt:ys.take j=ys:=by rw [hjl,List.take_length]
 conv=>whnf
 refine ⟨fun h=>absurd (lt_t h) h3,fun _=>?_⟩
 conv=>whnf
 rw [htt]
 refine ⟨fun h6 => ?_,fun h6 => ?_⟩
 ·have h6:totL fr ys≤60:=le_t h6
  conv=>whnf
  refine Or.inl ⟨⟨_,rfl,fun h=>⟨fun x hx => ?_,le_t h⟩⟩,rfl⟩
  obtain ⟨g1,g2⟩:=hjx x hx
  refine ⟨g1,g2,?_⟩
  have g3:=Nat.le_trans (totL_mem fr hx) h6
  have g4:=Nat.div_add_mod x.2.length fr
  rw [g2] at g4
  have g5:fr*(x.2.length / fr)≤fr*60:=Nat.mul_le_mul_left _ g3
  omega
 conv=>whnf
 exact Or.inl ⟨⟨false,rfl,fun h=>by cases h⟩,rfl⟩
end Go.Proofs.YtbpogapddpacoaaGreatDoor
end
section
section
namespace Go.Proofs.YtbpogapddpacoaaGreatDoor
open Go Go.Vc
set_option maxRecDepth 100000
set_option maxHeartbeats 8000000
def natI (l:List Nat):List Int:=l.map fun (x:Nat)=>(x:Int)
theorem natI_len (l:List Nat):(natI l).length=l.length:=by simp [natI]
def tabSt (sl:Value) (tab:List Nat):Nat→S
 | 0=>⟨[(3,.o (.c (.val (.slice none 0 0)))),(6,.o (.c (.val sl))),(7,.o (.c (.val (.int .i64 tab.length)))),(8,.o (.c (.val (.int .i64 ((0:Nat):Int)))))],[]⟩
 | k+1=>⟨[(3,.o (.c (.vec 0 (k+1)))),(6,.o (.c (.val sl))),(7,.o (.c (.val (.int .i64 tab.length)))),(8,.o (.c (.val (.int .i64 ((k+1:Nat):Int)))))],[.vec true 70 (encI .u64) [] 1 ((natI tab).take (k+1))]⟩
theorem take_snoc {tab:List Nat} {k x:Nat} (h:tab[k]? = some x):(natI tab).take k++[(x:Int)]=(natI tab).take (k+1):=by
 have hk:=(List.getElem?_eq_some_iff.1 h).1
 rw [List.take_add_one]
 congr 1
 simp [natI,h]
theorem tableW (w0:World) {a:Addr} {c:Nat} {tab:List Nat} (h1:1≤tab.length) (h2:tab.length≤65536) (hb:∀ (i x:Nat),tab[i]? = some x→x<4294967296∧w0.cell? (a.add i)=some (.int .u32 x)) :
 CallsA Tryz.prog w0 34 [.c (.val (.slice (some a) tab.length c))] [] fun r H=>r = .o (.c (.vec 0 tab.length))∧H=[.vec true 70 (encI .u64) [] 1 (natI tab)]:=by
 refine callsA_of_ev c34_ ?_
 conv=>whnf
 refine Or.inl ?_
 conv=>whnf
 refine ⟨_root_.Fin (tab.length+1),fun ⟨i,_⟩=>tabSt (.slice (some a) tab.length c) tab i,fun i=>tab.length - i.1,⟨⟨0,by omega⟩,[],⟨rfl,trivial,rfl⟩,rfl,rfl,rfl,rfl,trivial⟩,fun ⟨i,hi⟩ => ?_⟩
 rcases i with _ | k
 ·conv=>whnf
  refine ⟨fun h3 => ?_,fun h3 => ?_⟩
  ·obtain ⟨x,hx⟩:∃ x,tab[0]? = some x:=⟨_,List.getElem?_eq_getElem (by omega)⟩
   obtain ⟨hx1,hx2⟩:=hb 0 x hx
   conv=>whnf
   refine ⟨by omega,?_⟩
   conv=>whnf
   refine ⟨_,hx2,rfl,?_⟩
   conv=>whnf
   refine ⟨by omega,Int,encI .u64,[],[(x:Int)],fun _=>rfl,⟨rfl,rfl,?_⟩,by simp only [List.length_cons,List.length_nil]; omega,by simp only [List.length_cons,List.length_nil]; omega,?_⟩
   ·show [CV.val (.int .u64 (x:Int))]=[CV.val (.int .u64 (IntKind.u64.wrap x))]
    rw [nwrap64 (by omega)]
   conv=>whnf
   refine ⟨⟨1,by omega⟩,⟨[1],⟨rfl,⟨?_,rfl,trivial⟩,rfl⟩,rfl,rfl,rfl,?_,trivial⟩,?_⟩
   ·have:=take_snoc hx
    simp only [List.take_zero,List.nil_append] at this
    show some (Blk.vec true 70 (encI .u64) [] 1 [(x:Int)])=some (Blk.vec true 70 (encI .u64) [] 1 ((natI tab).take (0+1)))
    rw [← this]
   ·refine eq_i64 ?_
    rw [nadd,nwrapi (by omega)]
   show tab.length - 1<tab.length - 0
   omega
  have:=lt_f h3
  omega
 conv=>whnf
 refine ⟨fun h3 => ?_,fun h3 => ?_⟩
 ·have h3:k+1<tab.length:=lt_t h3
  obtain ⟨x,hx⟩:∃ x,tab[k+1]? = some x:=⟨_,List.getElem?_eq_getElem h3⟩
  obtain ⟨hx1,hx2⟩:=hb (k+1) x hx
  have hl:((natI tab).take (k+1)).length=k+1:=by
   rw [List.length_take,natI_len]
   omega
  have hl2:((natI tab).take (k+1)++[(x:Int)]).length=k+2:=by
   rw [List.length_append,hl]
   rfl
  conv=>whnf
  refine ⟨by omega,?_⟩
  conv=>whnf
  refine ⟨.int .u32 x,?_,rfl,?_⟩
  ·rw [Int.toNat_natCast,Nat.mul_one]
   exact hx2
  conv=>whnf
  refine ⟨hl.symm,[(x:Int)],⟨rfl,rfl,?_⟩,by rw [hl2]; omega,by rw [hl2]; omega,?_⟩
  ·show [CV.val (.int .u64 (x:Int))]=[CV.val (.int .u64 (IntKind.u64.wrap x))]
   rw [nwrap64 (by omega)]
  conv=>whnf
  refine ⟨⟨k+2,by omega⟩,⟨[2],⟨rfl,⟨?_,rfl,trivial⟩,rfl⟩,?_,rfl,rfl,?_,trivial⟩,?_⟩
  ·show some (Blk.vec true 70 (encI .u64) [] 1 ((natI tab).take (k+1)++[(x:Int)]))=some (Blk.vec true 70 (encI .u64) [] 1 ((natI tab).take (k+1+1)))
   rw [take_snoc hx]
  ·show some (AV.o (.c (.vec 2 ((natI tab).take (k+1)++[(x:Int)]).length)))=some (AV.o (.c (.vec 2 (k+1+1))))
   rw [hl2]
  ·refine eq_i64 ?_
   rw [nadd,nwrapi (by omega)]
  show tab.length - (k+2)<tab.length - (k+1)
  omega
 have h3:tab.length≤k+1:=lt_f h3
 have hk:tab.length=k+1:=by omega
 conv=>whnf
 refine Or.inl ⟨?_,?_⟩
 ·rw [hk]
  rfl
 show [Blk.vec true 70 (encI .u64) [] 1 ((natI tab).take (k+1))]=_
 rw [List.take_of_length_le (by rw [natI_len]; omega)]
structure OpV where
 act:Int
 a:Nat
 b:Nat
 c:Nat
 v:Int
 tab:Value
 rows:List Nat
def OpV.cells (o:OpV):List CV:=[.val (.int .i64 o.act),.val (.int .u32 o.a),.val (.int .u32 o.b),.val (.int .u32 o.c),.val (.int .i64 o.v),.val o.tab]
def encOp:Enc OpV:=⟨fun _ o=>o.cells,fun _ _ _ _ _ _=>rfl⟩
theorem take_snoc' {α:Type} {l:List α} {k:Nat} {x:α} (h:l[k]? = some x):l.take k++[x]=l.take (k+1):=by
 rw [List.take_add_one,h]
 rfl
structure SeenV where
 value:Int
 fine:Bool
 rng:Nat
 tell:Nat
 frac:Nat
 left:Int
def SeenV.cells (s:SeenV):List CV:=[.val (.int .i64 s.value),.val (.bool s.fine),.val (.int .u32 s.rng),.val (.int .u32 s.tell),.val (.int .u32 s.frac),.val (.int .i64 s.left)]
def encSeen:Enc SeenV:=⟨fun _ o=>o.cells,fun _ _ _ _ _ _=>rfl⟩
def Dec.act (d:Dec) (o:OpV):Int × Bool × Dec :=
 if o.act=0 then ((d.at o.c:Nat),true,if o.a≤d.at o.c∧d.at o.c<o.b then (d.cut (d.rng / o.c) o.a o.b o.c).norm else d.uni o.c)
 else if o.act=1 then (((d.logp o.a).1:Nat),true,(d.logp o.a).2)
 else if o.act=2 then (((d.icdf (o.rows.getD 0 0) o.rows.tail).1:Nat),true,(d.icdf (o.rows.getD 0 0) o.rows.tail).2)
 else if o.act=3 then (((d.whole o.a).1:Nat),(d.whole o.a).2.1,(d.whole o.a).2.2)
 else if o.act=4 then ((d.raw o.a:Nat),true,d.rawOn o.a)
 else if o.act=5 then ((d.lapl o.a o.b).1,true,(d.lapl o.a o.b).2)
 else (0,true,d.size o.a)
def Dec.told (d:Dec) (value:Int) (fine:Bool):SeenV:=⟨value,fine,d.rng,d.tell % 4294967296,d.frac % 4294967296,((d.data.length*8:Nat):Int) - (d.br:Int) - (d.rb:Int)⟩
def Dec.tells (d:Dec) (o:OpV):SeenV:=(d.act o).2.2.told (d.act o).1 (d.act o).2.1
def Dec.after (d:Dec):List OpV→Dec
 | []=>d
 | o::r=>(d.act o).2.2.after r
def Dec.seen (d:Dec):List OpV→List SeenV
 | []=>[]
 | o::r=>d.tells o::(d.act o).2.2.seen r
structure OpV.good (w0:World) (o:OpV):Prop where
 a32:o.a<4294967296
 b32:o.b<4294967296
 c32:o.c<4294967296
 kind:(o.act=0∧1≤o.c∧o.c≤65535∧o.b≤o.c)∨(o.act=1∧1≤o.a∧o.a≤15) ∨
  (o.act=2 ∧ ∃ total rest ta c,o.rows=total::rest∧TabOk total rest∧o.tab = .slice (some ta) o.rows.length c ∧ ∀ (i x:Nat),o.rows[i]? = some x→x<4294967296∧w0.cell? (ta.add i)=some (.int .u32 x)) ∨
  (o.act=3∧2≤o.a)∨(o.act=4∧o.a≤32)∨(o.act=5∧1≤o.a∧o.a≤32000∧o.b≤16000)∨o.act=6
theorem Dec.act_inv {w0:World} {d:Dec} {N:Nat} (h:d.inv N) (hN:N≤1152921504606846900) {o:OpV} (ho:o.good w0):(d.act o).2.2.inv (N+64):=by
 have up:∀ {e:Dec} {M:Nat},e.inv M→M≤N+64→e.inv (N+64):=fun he hM=>⟨he.bytes,he.len,he.br,Nat.le_trans he.nb hM,Nat.le_trans he.rb hM,he.lo,he.hi,he.val⟩
 unfold Dec.act
 rcases ho.kind with ⟨e,h1,h2,h3⟩ | ⟨e,h1,h2⟩ | ⟨e,total,rest,ta,c,hr,ht,_⟩ | ⟨e,h1⟩ | ⟨e,h1⟩ | ⟨e,h1,h2,h3⟩ | e
 ·rw [e,if_pos rfl]
  simp only
  split
  ·rename_i hc
   exact up (Dec.cut_inv h (by omega) h1 (by omega) hc.1 hc.2 h3).1 (by omega)
  exact up (d.uni_inv h (by omega) h1 (by omega)).1 (by omega)
 ·rw [e,if_neg (by decide),if_pos rfl]
  exact up (d.logp_inv h (by omega) h1 h2).1 (by omega)
 ·rw [e,if_neg (by decide),if_neg (by decide),if_pos rfl,hr]
  exact up (d.icdf_inv h (by omega) ht).1 (by omega)
 ·rw [e,if_neg (by decide),if_neg (by decide),if_neg (by decide),if_pos rfl]
  exact up (d.whole_inv h (by omega) (by omega) ho.a32).1 (by omega)
 ·rw [e,if_neg (by decide),if_neg (by decide),if_neg (by decide),if_neg (by decide),if_pos rfl]
  exact up (Dec.rawOn_inv h) (by omega)
 ·rw [e,if_neg (by decide),if_neg (by decide),if_neg (by decide),if_neg (by decide),if_neg (by decide),if_pos rfl]
  exact up (d.lapl_inv h (by omega) h1).1 (by omega)
 rw [e,if_neg (by decide),if_neg (by decide),if_neg (by decide),if_neg (by decide),if_neg (by decide),if_neg (by decide)]
 exact up (d.size_inv h) (by omega)
theorem Dec.after_inv {w0:World}:∀ {l:List OpV} {d:Dec} {N:Nat},d.inv N→N+64*l.length≤1152921504606846900→(∀ o∈l,o.good w0)→(d.after l).inv (N+64*l.length)
 | [],d,N,h,_,_=>h
 | o::r,d,N,h,hN,hg=>by
  simp only [List.length_cons] at hN
  have h1:=Dec.act_inv h (by omega) (hg o (by simp))
  have h2:=Dec.after_inv (l:=r) h1 (by omega) fun x hx=>hg x (by simp [hx])
  have e:N+64*(o::r).length=N+64+64*r.length:=by simp only [List.length_cons]; omega
  rw [e]
  exact h2
theorem Dec.after_snoc (d:Dec) (l:List OpV) (o:OpV):d.after (l++[o])=((d.after l).act o).2.2:=by
 induction l generalizing d with
 | nil=>rfl
 | cons x r ih=>exact ih _
theorem Dec.seen_snoc (d:Dec) (l:List OpV) (o:OpV):d.seen (l++[o])=d.seen l++[(d.after l).tells o]:=by
 induction l generalizing d with
 | nil=>rfl
 | cons x r ih =>
  simp only [List.cons_append,Dec.seen,ih,Dec.after]
theorem Dec.seen_len (d:Dec) (l:List OpV):(d.seen l).length=l.length:=by
 induction l generalizing d with
 | nil=>rfl
 | cons x r ih=>simp [Dec.seen,ih]
def decBlks (d:Dec):List Blk:=[.cells 98 [.vec 4 d.data.length,.val (.int .u64 d.br),.val (.int .u64 d.rb),.val (.int .u64 d.nb),.val (.int .u32 d.rng),.val (.int .u32 d.val)],.vec false 5 (encI .u8) [] 1 d.data]
def decEnv (n k:Nat):Env:=[(4,.o (.c (.ptr 1 0))),(5,.o (.c (.ptr 2 0))),(6,.o (.c (.ptr 3 0))),(17,.o (.c (.vec 0 n))),(18,.o (.c (.val (.int .i64 n)))),(19,.o (.c (.val (.int .i64 k))))]
def decSt (l:List OpV) (d0:Dec):Nat→S
 | 0=>⟨decEnv l.length 0,[.vec true 83 encOp [] 6 l,.cells 61 [.val (.slice none 0 0)],.cells 3 [.val (.int .i64 ((0:Nat):Int))]]++decBlks d0⟩
 | k+1=>⟨decEnv l.length (k+1),[.vec true 83 encOp [] 6 l,.cells 61 [.vec 5 (k+1)],.cells 3 [.val (.int .i64 ((0:Nat):Int))]]++decBlks (d0.after (l.take (k+1)))++[.vec true 67 encSeen [] 6 (d0.seen (l.take (k+1)))]⟩
def midSt (l:List OpV) (sv:CV) (T:List Blk) (k:Nat) (id:Nat) (p:Int × Bool × Dec):S :=
 ⟨(9,.o (.c (.ptr id 0)))::decEnv l.length k,[.vec true 83 encOp [] 6 l,.cells 61 [sv],.cells 3 [.val (.int .i64 ((0:Nat):Int))]]++decBlks p.2.2++T++[.cells 67 [.val (.int .i64 p.1),.val (.bool p.2.1),.val (.int .u32 ((0:Nat):Int)),.val (.int .u32 ((0:Nat):Int)),.val (.int .u32 ((0:Nat):Int)),.val (.int .i64 ((0:Nat):Int))]]⟩
theorem seen_eq {x y:Int} {f g:Bool} (h:x=y) (hf:f=g):some (Blk.cells 67 [.val (.int .i64 x),.val (.bool f),.val (.int .u32 ((0:Nat):Int)),.val (.int .u32 ((0:Nat):Int)),.val (.int .u32 ((0:Nat):Int)),.val (.int .i64 ((0:Nat):Int))])=some (Blk.cells 67 [.val (.int .i64 y),.val (.bool g),.val (.int .u32 ((0:Nat):Int)),.val (.int .u32 ((0:Nat):Int)),.val (.int .u32 ((0:Nat):Int)),.val (.int .i64 ((0:Nat):Int))]):=by
 rw [h,hf]
theorem logp_le (d:Dec) (k:Nat):(d.logp k).1≤1:=by
 unfold Dec.logp
 split <;> simp
theorem whole_lt (d:Dec) {n:Nat} (h:1≤n):(d.whole n).1≤n:=by
 unfold Dec.whole
 split
 ·exact Nat.sub_le _ _
 simp only
 split <;> omega
theorem seen_cells {d:Dec} {v:Int} {f:Bool} {t c lf:Int} (ht:t=(d.tell % 4294967296:Nat)) (hc:c=(d.frac % 4294967296:Nat)) (hl:lf=((d.data.length*8:Nat):Int) - (d.br:Int) - (d.rb:Int)) :
 flat encSeen [] [d.told v f]=[.val (.int .i64 v),.val (.bool f),.val (.int .u32 d.rng),.val (.int .u32 t),.val (.int .u32 c),.val (.int .i64 lf)]:=by
 subst ht hc hl
 rfl
theorem wrap_mod (n:Nat):IntKind.u32.wrap (n:Int)=((n % 4294967296:Nat):Int):=by
 rw [IntKind.wrap_u32]
 omega
theorem decSt_succ {l:List OpV} {d0 d1:Dec} {k:Nat} {ss:List SeenV} (h1:d0.after (l.take (k+1))=d1) (h2:d0.seen (l.take (k+1))=ss) :
 decSt l d0 (k+1)=⟨decEnv l.length (k+1),[.vec true 83 encOp [] 6 l,.cells 61 [.vec 5 (k+1)],.cells 3 [.val (.int .i64 ((0:Nat):Int))]]++decBlks d1++[.vec true 67 encSeen [] 6 ss]⟩:=by
 subst h1 h2
 rfl
theorem decodeW (w0:World) {b:ByteArray} {l:List OpV} (hb:b.size≤1099511627776) (hl:l≠[]) (hl2:l.length≤65536) (hg:∀ o∈l,o.good w0∧o.tab.oneCell'=true) :
 CallsA Tryz.prog w0 18 [.c (.val (.string b)),.c (.vec 0 l.length)] [.vec true 83 encOp [] 6 l] fun r H=>r = .t [.c (.vec 1 l.length),.c (.val (.int .i64 0))]∧H=[.vec true 83 encOp [] 6 l,.vec true 67 encSeen [] 6 ((Dec.init (bytesOf b)).seen l)]:=by
 have hbl:(bytesOf b).length=b.size:=by
  unfold bytesOf
  rw [List.length_map]
  rfl
 have hbb:∀ x∈bytesOf b,0≤x∧x<256:=by
  intro x hx
  unfold bytesOf at hx
  obtain ⟨y,_,rfl⟩:=List.mem_map.1 hx
  have:=y.toNat_lt
  omega
 refine callsA_of_evD c18_ ?_
 conv=>whnf
 refine ⟨by omega,?_⟩
 conv=>whnf
 refine CallsA.lift (H0:=[.cells 98 [.val (.slice none 0 0),.val (.int .u64 0),.val (.int .u64 0),.val (.int .u64 0),.val (.int .u32 0),.val (.int .u32 0)],.vec false 5 (encI .u8) [] 1 (bytesOf b)]) [3,4] rfl ⟨rfl,rfl,rfl,rfl,trivial⟩ rfl (decInit w0 (xs:=bytesOf b) hbb (by omega)) ?_
 rintro _ _ ⟨rfl,rfl⟩
 obtain ⟨hinv,hdata,hrb⟩:=Dec.init_inv hbb (by omega)
 conv=>whnf
 refine Or.inl ?_
 conv=>whnf
 refine ⟨_root_.Fin (l.length+1),fun ⟨k,_⟩=>decSt l (Dec.init (bytesOf b)) k,fun k=>l.length - k.1,⟨⟨0,by omega⟩,[0,1,2,3,4],⟨rfl,⟨rfl,rfl,rfl,rfl,rfl,rfl,by rfl,rfl,by rfl,rfl,trivial⟩,rfl⟩,rfl,rfl,rfl,rfl,rfl,rfl,trivial⟩,fun ⟨k,hk⟩ => ?_⟩
 generalize Dec.init (bytesOf b)=d0 at *
 rcases k with _ | k
 ·conv=>whnf
  refine ⟨fun h1 => ?_,fun h1 => ?_⟩
  ·have h1:0<l.length:=lt_t h1
   obtain ⟨o,ho⟩:∃ o,l[0]? = some o:=⟨_,List.getElem?_eq_getElem h1⟩
   obtain ⟨hgo,hgt⟩:=hg o (List.mem_of_getElem? ho)
   conv=>whnf
   refine Or.inl ?_
   conv=>whnf
   refine ⟨by omega,?_⟩
   conv=>whnf
   refine ⟨o,ho,?_⟩
   conv=>whnf
   refine Or.inr ⟨Unit,fun _=>midSt l (.val (.slice none 0 0)) [] 0 5 (d0.act o),?_,fun _=>?_⟩
   ·obtain ⟨act,oa,ob,oc,ov,otab,rows⟩:=o
    obtain ⟨a32,b32,c32,kind⟩:=hgo
    simp only at a32 b32 c32 kind
    rcases kind with ⟨rfl,h2,h3,h4⟩ | ⟨rfl,h2,h3⟩ | ⟨rfl,total,rest,ta,c,hr,ht,htab,hcell⟩ | ⟨rfl,h2⟩ | ⟨rfl,h2⟩ | ⟨rfl,h2,h3,h4⟩ | rfl
    ·have hlo:=hinv.lo
     have hat:=(d0.at_spec hinv h2 (by omega)).1
     have hact:d0.act ⟨0,oa,ob,oc,ov,otab,rows⟩=(((d0.at oc:Nat):Int),true,if oa≤d0.at oc∧d0.at oc<ob then (d0.cut (d0.rng / oc) oa ob oc).norm else d0.uni oc):=rfl
     conv=>whnf
     refine ⟨fun _=>?_,(fun h=>by cases h)⟩
     conv=>whnf
     refine CallsA.lift (H0:=d0.H) [3,4] rfl ⟨rfl,rfl,rfl,rfl,trivial⟩ rfl (cumulative w0 hinv (n:=oc) h2 (by omega)) ?_
     rintro _ _ ⟨rfl,rfl⟩
     conv=>whnf
     refine Or.inl ?_
     conv=>whnf
     have hno:¬ (oa≤d0.at oc∧d0.at oc<ob)→CallsA Tryz.prog w0 45 [.c (.ptr 0 0),.c (.val (.int .u32 (d0.at oc:Nat))),.c (.val (.int .u32 (IntKind.u32.wrap ((d0.at oc:Int)+((1:Nat):Int))))),.c (.val (.int .u32 oc))] d0.H fun r H=>r = .t []∧H=(d0.act ⟨0,oa,ob,oc,ov,otab,rows⟩).2.2.H:=by
      intro hc
      rw [hact,if_neg hc,nadd,nwrap32 (by omega)]
      exact updCumulative w0 hinv (by omega) h2 (by omega) (Nat.le_refl _) (Nat.lt_succ_self _) hat
     have hyes:(oa≤d0.at oc∧d0.at oc<ob)→CallsA Tryz.prog w0 45 [.c (.ptr 0 0),.c (.val (.int .u32 oa)),.c (.val (.int .u32 ob)),.c (.val (.int .u32 oc))] d0.H fun r H=>r = .t []∧H=(d0.act ⟨0,oa,ob,oc,ov,otab,rows⟩).2.2.H:=by
      intro hc
      rw [hact,if_pos hc]
      exact updCumulative w0 hinv (by omega) h2 (by omega) hc.1 hc.2 h4
     have hval:(d0.act ⟨0,oa,ob,oc,ov,otab,rows⟩).1=(d0.at oc:Nat):=rfl
     have hfine:(d0.act ⟨0,oa,ob,oc,ov,otab,rows⟩).2.1=true:=rfl
     generalize d0.act ⟨0,oa,ob,oc,ov,otab,rows⟩=res at *
     refine ⟨fun h5 => ?_,fun h5 => ?_⟩
     ·have h5:oa≤d0.at oc:=le_t h5
      conv=>whnf
      refine ⟨fun h6 => ?_,fun h6 => ?_⟩
      ·have h6:d0.at oc<ob:=lt_t h6
       conv=>whnf
       refine CallsA.lift (H0:=d0.H) [3,4] rfl ⟨rfl,rfl,rfl,rfl,trivial⟩ rfl (hyes ⟨h5,h6⟩) ?_
       rintro _ _ ⟨rfl,rfl⟩
       conv=>whnf
       refine ⟨(),[0,1,2,3,4,6],⟨rfl,⟨rfl,rfl,rfl,rfl,rfl,rfl,by rfl,rfl,by rfl,rfl,seen_eq ?_ hfine.symm,rfl,trivial⟩,rfl⟩,rfl,rfl,rfl,rfl,rfl,rfl,rfl,trivial⟩
       rw [hval]
       exact nwrapi (by omega)
      have h6:ob≤d0.at oc:=lt_f h6
      conv=>whnf
      refine CallsA.lift (H0:=d0.H) [3,4] rfl ⟨rfl,rfl,rfl,rfl,trivial⟩ rfl (hno (by omega)) ?_
      rintro _ _ ⟨rfl,rfl⟩
      conv=>whnf
      refine ⟨(),[0,1,2,3,4,6],⟨rfl,⟨rfl,rfl,rfl,rfl,rfl,rfl,by rfl,rfl,by rfl,rfl,seen_eq ?_ hfine.symm,rfl,trivial⟩,rfl⟩,rfl,rfl,rfl,rfl,rfl,rfl,rfl,trivial⟩
      rw [hval]
      exact nwrapi (by omega)
     have h5:d0.at oc<oa:=le_f h5
     conv=>whnf
     refine CallsA.lift (H0:=d0.H) [3,4] rfl ⟨rfl,rfl,rfl,rfl,trivial⟩ rfl (hno (by omega)) ?_
     rintro _ _ ⟨rfl,rfl⟩
     conv=>whnf
     refine ⟨(),[0,1,2,3,4,6],⟨rfl,⟨rfl,rfl,rfl,rfl,rfl,rfl,by rfl,rfl,by rfl,rfl,seen_eq ?_ hfine.symm,rfl,trivial⟩,rfl⟩,rfl,rfl,rfl,rfl,rfl,rfl,rfl,trivial⟩
     rw [hval]
     exact nwrapi (by omega)
    ·conv=>whnf
     refine ⟨(fun h=>by cases h),fun _=>?_⟩
     conv=>whnf
     refine ⟨fun _=>?_,(fun h=>by cases h)⟩
     conv=>whnf
     rw [nwrap64 (n:=oa) (by omega)]
     refine CallsA.lift (H0:=d0.H) [3,4] rfl ⟨rfl,rfl,rfl,rfl,trivial⟩ rfl (logP w0 hinv (by omega) (k:=oa) h2 h3) ?_
     rintro _ _ ⟨rfl,rfl⟩
     have:=logp_le d0 oa
     conv=>whnf
     refine ⟨(),[0,1,2,3,4,6],⟨rfl,⟨rfl,rfl,rfl,rfl,rfl,rfl,by rfl,rfl,by rfl,rfl,seen_eq ?_ rfl,rfl,trivial⟩,rfl⟩,rfl,rfl,rfl,rfl,rfl,rfl,rfl,trivial⟩
     exact nwrapi (by omega)
    ·subst hr htab
     have hact:d0.act ⟨2,oa,ob,oc,ov,.slice (some ta) (total::rest).length c,total::rest⟩=((((d0.icdf total rest).1:Nat):Int),true,(d0.icdf total rest).2):=rfl
     have hk2:=(tabK_spec ht (d0.at_spec hinv ht.lo ht.hi).1).1
     have hk3:(d0.icdf total rest).1<rest.length:=hk2
     have hrl:=ht.len
     generalize d0.act ⟨2,oa,ob,oc,ov,.slice (some ta) (total::rest).length c,total::rest⟩=res at *
     subst hact
     conv=>whnf
     refine ⟨(fun h=>by cases h),fun _=>?_⟩
     conv=>whnf
     refine ⟨(fun h=>by cases h),fun _=>?_⟩
     conv=>whnf
     refine ⟨fun _=>?_,(fun h=>by cases h)⟩
     conv=>whnf
     refine cL0 (tableW w0 (a:=ta) (c:=c) (tab:=total::rest) (by simp) (by simp only [List.length_cons]; omega) hcell) ?_
     rintro _ _ ⟨rfl,rfl⟩
     conv=>whnf
     refine CallsA.lift (H0:=d0.H++[tabBlk total rest]) [3,4,7] rfl ⟨rfl,rfl,rfl,rfl,rfl,rfl,trivial⟩ rfl (symIcdf w0 hinv (by omega) ht) ?_
     rintro _ _ ⟨rfl,rfl⟩
     conv=>whnf
     refine ⟨(),[0,1,2,3,4,6],⟨rfl,⟨rfl,rfl,rfl,rfl,rfl,rfl,by rfl,rfl,by rfl,rfl,seen_eq ?_ rfl,rfl,trivial⟩,rfl⟩,rfl,rfl,rfl,rfl,rfl,rfl,rfl,trivial⟩
     exact nwrapi (by omega)
    ·conv=>whnf
     refine ⟨(fun h=>by cases h),fun _=>?_⟩
     conv=>whnf
     refine ⟨(fun h=>by cases h),fun _=>?_⟩
     conv=>whnf
     refine ⟨(fun h=>by cases h),fun _=>?_⟩
     conv=>whnf
     refine ⟨fun _=>?_,(fun h=>by cases h)⟩
     conv=>whnf
     refine CallsA.lift (H0:=d0.H) [3,4] rfl ⟨rfl,rfl,rfl,rfl,trivial⟩ rfl (uniform w0 hinv (by omega) (n:=oa) h2 a32) ?_
     rintro _ _ ⟨rfl,rfl⟩
     conv=>whnf
     refine ⟨(),[0,1,2,3,4,6],⟨rfl,⟨rfl,rfl,rfl,rfl,rfl,rfl,by rfl,rfl,by rfl,rfl,seen_eq ?_ rfl,rfl,trivial⟩,rfl⟩,rfl,rfl,rfl,rfl,rfl,rfl,rfl,trivial⟩
     have:=whole_lt d0 (n:=oa) (by omega)
     exact nwrapi (by omega)
    ·conv=>whnf
     refine ⟨(fun h=>by cases h),fun _=>?_⟩
     conv=>whnf
     refine ⟨(fun h=>by cases h),fun _=>?_⟩
     conv=>whnf
     refine ⟨(fun h=>by cases h),fun _=>?_⟩
     conv=>whnf
     refine ⟨(fun h=>by cases h),fun _=>?_⟩
     conv=>whnf
     refine ⟨fun _=>?_,(fun h=>by cases h)⟩
     conv=>whnf
     rw [nwrap64 (n:=oa) (by omega)]
     refine CallsA.lift (H0:=d0.H) [3,4] rfl ⟨rfl,rfl,rfl,rfl,trivial⟩ rfl (rawBits w0 hinv (by omega) (n:=oa) h2) ?_
     rintro _ _ ⟨rfl,rfl⟩
     have:=d0.raw_lt oa
     have:2 ^ oa≤2 ^ 32:=Nat.pow_le_pow_right (by omega) h2
     conv=>whnf
     refine ⟨(),[0,1,2,3,4,6],⟨rfl,⟨rfl,rfl,rfl,rfl,rfl,rfl,by rfl,rfl,by rfl,rfl,seen_eq ?_ rfl,rfl,trivial⟩,rfl⟩,rfl,rfl,rfl,rfl,rfl,rfl,rfl,trivial⟩
     exact nwrapi (by omega)
    ·conv=>whnf
     refine ⟨(fun h=>by cases h),fun _=>?_⟩
     conv=>whnf
     refine ⟨(fun h=>by cases h),fun _=>?_⟩
     conv=>whnf
     refine ⟨(fun h=>by cases h),fun _=>?_⟩
     conv=>whnf
     refine ⟨(fun h=>by cases h),fun _=>?_⟩
     conv=>whnf
     refine ⟨(fun h=>by cases h),fun _=>?_⟩
     conv=>whnf
     refine ⟨fun _=>?_,(fun h=>by cases h)⟩
     conv=>whnf
     refine CallsA.lift (H0:=d0.H) [3,4] rfl ⟨rfl,rfl,rfl,rfl,trivial⟩ rfl (laplace w0 hinv (by omega) h2 h3 h4) ?_
     rintro _ _ ⟨rfl,rfl⟩
     conv=>whnf
     refine ⟨(),[0,1,2,3,4,6],⟨rfl,⟨rfl,rfl,rfl,rfl,rfl,rfl,by rfl,rfl,by rfl,rfl,seen_eq ?_ rfl,rfl,trivial⟩,rfl⟩,rfl,rfl,rfl,rfl,rfl,rfl,rfl,trivial⟩
     rfl
    conv=>whnf
    refine ⟨(fun h=>by cases h),fun _=>?_⟩
    conv=>whnf
    refine ⟨(fun h=>by cases h),fun _=>?_⟩
    conv=>whnf
    refine ⟨(fun h=>by cases h),fun _=>?_⟩
    conv=>whnf
    refine ⟨(fun h=>by cases h),fun _=>?_⟩
    conv=>whnf
    refine ⟨(fun h=>by cases h),fun _=>?_⟩
    conv=>whnf
    refine ⟨(fun h=>by cases h),fun _=>?_⟩
    conv=>whnf
    refine ⟨fun _=>?_,(fun h=>by cases h)⟩
    conv=>whnf
    rw [nwrapi (n:=oa) (by omega)]
    refine CallsA.lift (H0:=d0.H) [3,4] rfl ⟨rfl,rfl,rfl,rfl,trivial⟩ rfl (setSize w0 d0 (n:=oa) a32) ?_
    rintro _ _ ⟨rfl,hH⟩
    have hdd:d0.data.length≤oa→d0.size oa=d0:=fun hs=>by
     unfold Dec.size
     rw [List.take_of_length_le hs]
    have hres:(d0.act ⟨6,oa,ob,oc,ov,otab,rows⟩)=(0,true,d0.size oa):=rfl
    generalize d0.act ⟨6,oa,ob,oc,ov,otab,rows⟩=res at *
    subst hres
    rcases hH with ⟨hs,rfl⟩ | ⟨hs,rfl⟩
    ·rw [hdd hs]
     conv=>whnf
     exact ⟨(),[0,1,2,3,4,6],⟨rfl,⟨rfl,rfl,rfl,rfl,rfl,rfl,by rfl,rfl,by rfl,rfl,rfl,rfl,trivial⟩,rfl⟩,rfl,rfl,rfl,rfl,rfl,rfl,rfl,trivial⟩
    conv=>whnf
    exact ⟨(),[0,1,2,3,7,6],⟨rfl,⟨rfl,rfl,rfl,rfl,rfl,rfl,by rfl,rfl,by rfl,rfl,rfl,rfl,trivial⟩,rfl⟩,rfl,rfl,rfl,rfl,rfl,rfl,rfl,trivial⟩
   have hi2:=Dec.act_inv hinv (by omega) hgo
   have hone:=take_snoc' ho
   simp only [List.take_zero,List.nil_append] at hone
   have hseen:d0.seen (l.take 1)=[d0.tells o]:=by rw [← hone]; rfl
   have hafter:d0.after (l.take 1)=(d0.act o).2.2:=by rw [← hone]; rfl
   have htells:d0.tells o=(d0.act o).2.2.told (d0.act o).1 (d0.act o).2.1:=rfl
   have h97:=hi2.nb
   have hlo:=hi2.lo; have hhi:=hi2.hi
   have hok:=(hi2.pre (by omega)).ok
   generalize d0.tells o=ts at *
   generalize d0.act o=res at *
   obtain ⟨v,fine,d1⟩:=res
   simp only at hi2 hafter htells h97 hlo hhi hok
   conv=>whnf
   refine CallsA.lift (H0:=d1.H) [3,4] rfl ⟨rfl,rfl,rfl,rfl,trivial⟩ rfl (finalRange w0 d1) ?_
   rintro _ _ ⟨rfl,rfl⟩
   conv=>whnf
   refine CallsA.lift (H0:=d1.H) [3,4] rfl ⟨rfl,rfl,rfl,rfl,trivial⟩ rfl (tell w0 d1 hok (by omega) (by omega)) ?_
   rintro _ _ ⟨rfl,rfl⟩
   conv=>whnf
   refine CallsA.lift (H0:=d1.H) [3,4] rfl ⟨rfl,rfl,rfl,rfl,trivial⟩ rfl (tellFrac w0 d1 (by omega) (by omega) (by omega)) ?_
   rintro _ _ ⟨rfl,rfl⟩
   conv=>whnf
   refine CallsA.lift (H0:=d1.H) [3,4] rfl ⟨rfl,rfl,rfl,rfl,trivial⟩ rfl (remaining w0 d1 hok) ?_
   rintro _ _ ⟨rfl,rfl⟩
   conv=>whnf
   refine ⟨by omega,SeenV,encSeen,[],[ts],fun _=>rfl,⟨rfl,rfl,?_⟩,by simp only [List.length_cons,List.length_nil]; omega,by simp only [List.length_cons,List.length_nil]; omega,?_⟩
   ·subst htells
    conv=>whnf
    exact seen_cells (wrap_mod _) (wrap_mod _) rfl
   subst htells
   conv=>whnf
   refine ⟨⟨1,by omega⟩,?_,?_⟩
   ·show EmbS 1 (decSt l d0 (0+1)) _
    rw [decSt_succ hafter hseen]
    refine ⟨[0,1,2,3,4,7],⟨rfl,⟨rfl,rfl,rfl,rfl,rfl,rfl,by rfl,rfl,by rfl,rfl,by rfl,rfl,trivial⟩,rfl⟩,rfl,rfl,rfl,rfl,rfl,?_,trivial⟩
    refine eq_i64 ?_
    rw [nadd,nwrapi (by omega)]
   show l.length - 1<l.length - 0
   omega
  have:=lt_f h1
  exact absurd (List.length_eq_zero_iff.1 (by omega)) hl
 conv=>whnf
 refine ⟨fun h1 => ?_,fun h1 => ?_⟩
 ·have h1:k+1<l.length:=lt_t h1
  obtain ⟨o,ho⟩:∃ o,l[k+1]? = some o:=⟨_,List.getElem?_eq_getElem h1⟩
  have hink:(d0.after (l.take (k+1))).inv (33+64*(k+1)):=by
   have hlk:(l.take (k+1)).length=k+1:=by rw [List.length_take]; omega
   have:=Dec.after_inv (w0:=w0) (l:=l.take (k+1)) hinv (by rw [hlk]; omega) (fun x hx=>(hg x (List.mem_of_mem_take hx)).1)
   rwa [hlk] at this
  have hssl:(d0.seen (l.take (k+1))).length=k+1:=by rw [Dec.seen_len,List.length_take]; omega
  generalize hdk:d0.after (l.take (k+1))=dk at *
  generalize hss:d0.seen (l.take (k+1))=ss at *
  obtain ⟨hgo,hgt⟩:=hg o (List.mem_of_getElem? ho)
  conv=>whnf
  refine Or.inl ?_
  conv=>whnf
  refine ⟨by omega,?_⟩
  conv=>whnf
  refine ⟨o,ho,?_⟩
  conv=>whnf
  refine Or.inr ⟨Unit,fun _=>midSt l (.vec 5 (k+1)) [.vec true 67 encSeen [] 6 ss] (k+1) 6 (dk.act o),?_,fun _=>?_⟩
  ·obtain ⟨act,oa,ob,oc,ov,otab,rows⟩:=o
   obtain ⟨a32,b32,c32,kind⟩:=hgo
   simp only at a32 b32 c32 kind
   rcases kind with ⟨rfl,h2,h3,h4⟩ | ⟨rfl,h2,h3⟩ | ⟨rfl,total,rest,ta,c,hr,ht,htab,hcell⟩ | ⟨rfl,h2⟩ | ⟨rfl,h2⟩ | ⟨rfl,h2,h3,h4⟩ | rfl
   ·have hlo:=hink.lo
    have hat:=(dk.at_spec hink h2 (by omega)).1
    have hact:dk.act ⟨0,oa,ob,oc,ov,otab,rows⟩=(((dk.at oc:Nat):Int),true,if oa≤dk.at oc∧dk.at oc<ob then (dk.cut (dk.rng / oc) oa ob oc).norm else dk.uni oc):=rfl
    conv=>whnf
    refine ⟨fun _=>?_,(fun h=>by cases h)⟩
    conv=>whnf
    refine CallsA.lift (H0:=dk.H) [3,4] rfl ⟨rfl,rfl,rfl,rfl,trivial⟩ rfl (cumulative w0 hink (n:=oc) h2 (by omega)) ?_
    rintro _ _ ⟨rfl,rfl⟩
    conv=>whnf
    refine Or.inl ?_
    conv=>whnf
    have hno:¬ (oa≤dk.at oc∧dk.at oc<ob)→CallsA Tryz.prog w0 45 [.c (.ptr 0 0),.c (.val (.int .u32 (dk.at oc:Nat))),.c (.val (.int .u32 (IntKind.u32.wrap ((dk.at oc:Int)+((1:Nat):Int))))),.c (.val (.int .u32 oc))] dk.H fun r H=>r = .t []∧H=(dk.act ⟨0,oa,ob,oc,ov,otab,rows⟩).2.2.H:=by
     intro hc
     rw [hact,if_neg hc,nadd,nwrap32 (by omega)]
     exact updCumulative w0 hink (by omega) h2 (by omega) (Nat.le_refl _) (Nat.lt_succ_self _) hat
    have hyes:(oa≤dk.at oc∧dk.at oc<ob)→CallsA Tryz.prog w0 45 [.c (.ptr 0 0),.c (.val (.int .u32 oa)),.c (.val (.int .u32 ob)),.c (.val (.int .u32 oc))] dk.H fun r H=>r = .t []∧H=(dk.act ⟨0,oa,ob,oc,ov,otab,rows⟩).2.2.H:=by
     intro hc
     rw [hact,if_pos hc]
     exact updCumulative w0 hink (by omega) h2 (by omega) hc.1 hc.2 h4
    have hval:(dk.act ⟨0,oa,ob,oc,ov,otab,rows⟩).1=(dk.at oc:Nat):=rfl
    have hfine:(dk.act ⟨0,oa,ob,oc,ov,otab,rows⟩).2.1=true:=rfl
    generalize dk.act ⟨0,oa,ob,oc,ov,otab,rows⟩=res at *
    refine ⟨fun h5 => ?_,fun h5 => ?_⟩
    ·have h5:oa≤dk.at oc:=le_t h5
     conv=>whnf
     refine ⟨fun h6 => ?_,fun h6 => ?_⟩
     ·have h6:dk.at oc<ob:=lt_t h6
      conv=>whnf
      refine CallsA.lift (H0:=dk.H) [3,4] rfl ⟨rfl,rfl,rfl,rfl,trivial⟩ rfl (hyes ⟨h5,h6⟩) ?_
      rintro _ _ ⟨rfl,rfl⟩
      conv=>whnf
      refine ⟨(),[0,1,2,3,4,5,7],⟨rfl,⟨rfl,rfl,rfl,rfl,rfl,rfl,by rfl,rfl,by rfl,rfl,rfl,rfl,seen_eq ?_ hfine.symm,rfl,trivial⟩,rfl⟩,rfl,rfl,rfl,rfl,rfl,rfl,rfl,trivial⟩
      rw [hval]
      exact nwrapi (by omega)
     have h6:ob≤dk.at oc:=lt_f h6
     conv=>whnf
     refine CallsA.lift (H0:=dk.H) [3,4] rfl ⟨rfl,rfl,rfl,rfl,trivial⟩ rfl (hno (by omega)) ?_
     rintro _ _ ⟨rfl,rfl⟩
     conv=>whnf
     refine ⟨(),[0,1,2,3,4,5,7],⟨rfl,⟨rfl,rfl,rfl,rfl,rfl,rfl,by rfl,rfl,by rfl,rfl,rfl,rfl,seen_eq ?_ hfine.symm,rfl,trivial⟩,rfl⟩,rfl,rfl,rfl,rfl,rfl,rfl,rfl,trivial⟩
     rw [hval]
     exact nwrapi (by omega)
    have h5:dk.at oc<oa:=le_f h5
    conv=>whnf
    refine CallsA.lift (H0:=dk.H) [3,4] rfl ⟨rfl,rfl,rfl,rfl,trivial⟩ rfl (hno (by omega)) ?_
    rintro _ _ ⟨rfl,rfl⟩
    conv=>whnf
    refine ⟨(),[0,1,2,3,4,5,7],⟨rfl,⟨rfl,rfl,rfl,rfl,rfl,rfl,by rfl,rfl,by rfl,rfl,rfl,rfl,seen_eq ?_ hfine.symm,rfl,trivial⟩,rfl⟩,rfl,rfl,rfl,rfl,rfl,rfl,rfl,trivial⟩
    rw [hval]
    exact nwrapi (by omega)
   ·conv=>whnf
    refine ⟨(fun h=>by cases h),fun _=>?_⟩
    conv=>whnf
    refine ⟨fun _=>?_,(fun h=>by cases h)⟩
    conv=>whnf
    rw [nwrap64 (n:=oa) (by omega)]
    refine CallsA.lift (H0:=dk.H) [3,4] rfl ⟨rfl,rfl,rfl,rfl,trivial⟩ rfl (logP w0 hink (by omega) (k:=oa) h2 h3) ?_
    rintro _ _ ⟨rfl,rfl⟩
    have:=logp_le dk oa
    conv=>whnf
    refine ⟨(),[0,1,2,3,4,5,7],⟨rfl,⟨rfl,rfl,rfl,rfl,rfl,rfl,by rfl,rfl,by rfl,rfl,rfl,rfl,seen_eq ?_ rfl,rfl,trivial⟩,rfl⟩,rfl,rfl,rfl,rfl,rfl,rfl,rfl,trivial⟩
    exact nwrapi (by omega)
   ·subst hr htab
    have hact:dk.act ⟨2,oa,ob,oc,ov,.slice (some ta) (total::rest).length c,total::rest⟩=((((dk.icdf total rest).1:Nat):Int),true,(dk.icdf total rest).2):=rfl
    have hk2:=(tabK_spec ht (dk.at_spec hink ht.lo ht.hi).1).1
    have hk3:(dk.icdf total rest).1<rest.length:=hk2
    have hrl:=ht.len
    generalize dk.act ⟨2,oa,ob,oc,ov,.slice (some ta) (total::rest).length c,total::rest⟩=res at *
    subst hact
    conv=>whnf
    refine ⟨(fun h=>by cases h),fun _=>?_⟩
    conv=>whnf
    refine ⟨(fun h=>by cases h),fun _=>?_⟩
    conv=>whnf
    refine ⟨fun _=>?_,(fun h=>by cases h)⟩
    conv=>whnf
    refine cL0 (tableW w0 (a:=ta) (c:=c) (tab:=total::rest) (by simp) (by simp only [List.length_cons]; omega) hcell) ?_
    rintro _ _ ⟨rfl,rfl⟩
    conv=>whnf
    refine CallsA.lift (H0:=dk.H++[tabBlk total rest]) [3,4,8] rfl ⟨rfl,rfl,rfl,rfl,rfl,rfl,trivial⟩ rfl (symIcdf w0 hink (by omega) ht) ?_
    rintro _ _ ⟨rfl,rfl⟩
    conv=>whnf
    refine ⟨(),[0,1,2,3,4,5,7],⟨rfl,⟨rfl,rfl,rfl,rfl,rfl,rfl,by rfl,rfl,by rfl,rfl,rfl,rfl,seen_eq ?_ rfl,rfl,trivial⟩,rfl⟩,rfl,rfl,rfl,rfl,rfl,rfl,rfl,trivial⟩
    exact nwrapi (by omega)
   ·conv=>whnf
    refine ⟨(fun h=>by cases h),fun _=>?_⟩
    conv=>whnf
    refine ⟨(fun h=>by cases h),fun _=>?_⟩
    conv=>whnf
    refine ⟨(fun h=>by cases h),fun _=>?_⟩
    conv=>whnf
    refine ⟨fun _=>?_,(fun h=>by cases h)⟩
    conv=>whnf
    refine CallsA.lift (H0:=dk.H) [3,4] rfl ⟨rfl,rfl,rfl,rfl,trivial⟩ rfl (uniform w0 hink (by omega) (n:=oa) h2 a32) ?_
    rintro _ _ ⟨rfl,rfl⟩
    conv=>whnf
    refine ⟨(),[0,1,2,3,4,5,7],⟨rfl,⟨rfl,rfl,rfl,rfl,rfl,rfl,by rfl,rfl,by rfl,rfl,rfl,rfl,seen_eq ?_ rfl,rfl,trivial⟩,rfl⟩,rfl,rfl,rfl,rfl,rfl,rfl,rfl,trivial⟩
    have:=whole_lt dk (n:=oa) (by omega)
    exact nwrapi (by omega)
   ·conv=>whnf
    refine ⟨(fun h=>by cases h),fun _=>?_⟩
    conv=>whnf
    refine ⟨(fun h=>by cases h),fun _=>?_⟩
    conv=>whnf
    refine ⟨(fun h=>by cases h),fun _=>?_⟩
    conv=>whnf
    refine ⟨(fun h=>by cases h),fun _=>?_⟩
    conv=>whnf
    refine ⟨fun _=>?_,(fun h=>by cases h)⟩
    conv=>whnf
    rw [nwrap64 (n:=oa) (by omega)]
    refine CallsA.lift (H0:=dk.H) [3,4] rfl ⟨rfl,rfl,rfl,rfl,trivial⟩ rfl (rawBits w0 hink (by omega) (n:=oa) h2) ?_
    rintro _ _ ⟨rfl,rfl⟩
    have:=dk.raw_lt oa
    have:2 ^ oa≤2 ^ 32:=Nat.pow_le_pow_right (by omega) h2
    conv=>whnf
    refine ⟨(),[0,1,2,3,4,5,7],⟨rfl,⟨rfl,rfl,rfl,rfl,rfl,rfl,by rfl,rfl,by rfl,rfl,rfl,rfl,seen_eq ?_ rfl,rfl,trivial⟩,rfl⟩,rfl,rfl,rfl,rfl,rfl,rfl,rfl,trivial⟩
    exact nwrapi (by omega)
   ·conv=>whnf
    refine ⟨(fun h=>by cases h),fun _=>?_⟩
    conv=>whnf
    refine ⟨(fun h=>by cases h),fun _=>?_⟩
    conv=>whnf
    refine ⟨(fun h=>by cases h),fun _=>?_⟩
    conv=>whnf
    refine ⟨(fun h=>by cases h),fun _=>?_⟩
    conv=>whnf
    refine ⟨(fun h=>by cases h),fun _=>?_⟩
    conv=>whnf
    refine ⟨fun _=>?_,(fun h=>by cases h)⟩
    conv=>whnf
    refine CallsA.lift (H0:=dk.H) [3,4] rfl ⟨rfl,rfl,rfl,rfl,trivial⟩ rfl (laplace w0 hink (by omega) h2 h3 h4) ?_
    rintro _ _ ⟨rfl,rfl⟩
    conv=>whnf
    refine ⟨(),[0,1,2,3,4,5,7],⟨rfl,⟨rfl,rfl,rfl,rfl,rfl,rfl,by rfl,rfl,by rfl,rfl,rfl,rfl,seen_eq ?_ rfl,rfl,trivial⟩,rfl⟩,rfl,rfl,rfl,rfl,rfl,rfl,rfl,trivial⟩
    rfl
   conv=>whnf
   refine ⟨(fun h=>by cases h),fun _=>?_⟩
   conv=>whnf
   refine ⟨(fun h=>by cases h),fun _=>?_⟩
   conv=>whnf
   refine ⟨(fun h=>by cases h),fun _=>?_⟩
   conv=>whnf
   refine ⟨(fun h=>by cases h),fun _=>?_⟩
   conv=>whnf
   refine ⟨(fun h=>by cases h),fun _=>?_⟩
   conv=>whnf
   refine ⟨(fun h=>by cases h),fun _=>?_⟩
   conv=>whnf
   refine ⟨fun _=>?_,(fun h=>by cases h)⟩
   conv=>whnf
   rw [nwrapi (n:=oa) (by omega)]
   refine CallsA.lift (H0:=dk.H) [3,4] rfl ⟨rfl,rfl,rfl,rfl,trivial⟩ rfl (setSize w0 dk (n:=oa) a32) ?_
   rintro _ _ ⟨rfl,hH⟩
   have hdd:dk.data.length≤oa→dk.size oa=dk:=fun hs=>by
    unfold Dec.size
    rw [List.take_of_length_le hs]
   have hres:(dk.act ⟨6,oa,ob,oc,ov,otab,rows⟩)=(0,true,dk.size oa):=rfl
   generalize dk.act ⟨6,oa,ob,oc,ov,otab,rows⟩=res at *
   subst hres
   rcases hH with ⟨hs,rfl⟩ | ⟨hs,rfl⟩
   ·rw [hdd hs]
    conv=>whnf
    exact ⟨(),[0,1,2,3,4,5,7],⟨rfl,⟨rfl,rfl,rfl,rfl,rfl,rfl,by rfl,rfl,by rfl,rfl,rfl,rfl,rfl,rfl,trivial⟩,rfl⟩,rfl,rfl,rfl,rfl,rfl,rfl,rfl,trivial⟩
   conv=>whnf
   exact ⟨(),[0,1,2,3,8,5,7],⟨rfl,⟨rfl,rfl,rfl,rfl,rfl,rfl,by rfl,rfl,by rfl,rfl,rfl,rfl,rfl,rfl,trivial⟩,rfl⟩,rfl,rfl,rfl,rfl,rfl,rfl,rfl,trivial⟩
  have hi2:=Dec.act_inv hink (by omega) hgo
  have hone:=take_snoc' ho
  have hseen:d0.seen (l.take (k+1+1))=ss++[dk.tells o]:=by rw [← hone,Dec.seen_snoc,hss,hdk]
  have hafter:d0.after (l.take (k+1+1))=(dk.act o).2.2:=by rw [← hone,Dec.after_snoc,hdk]
  have htells:dk.tells o=(dk.act o).2.2.told (dk.act o).1 (dk.act o).2.1:=rfl
  have h97:=hi2.nb
  have hlo:=hi2.lo; have hhi:=hi2.hi
  have hok:=(hi2.pre (by omega)).ok
  generalize dk.tells o=ts at *
  generalize dk.act o=res at *
  obtain ⟨v,fine,d1⟩:=res
  simp only at hi2 hafter htells h97 hlo hhi hok
  have hlen2:(ss++[ts]).length=k+1+1:=by rw [List.length_append,hssl]; rfl
  conv=>whnf
  refine CallsA.lift (H0:=d1.H) [3,4] rfl ⟨rfl,rfl,rfl,rfl,trivial⟩ rfl (finalRange w0 d1) ?_
  rintro _ _ ⟨rfl,rfl⟩
  conv=>whnf
  refine CallsA.lift (H0:=d1.H) [3,4] rfl ⟨rfl,rfl,rfl,rfl,trivial⟩ rfl (tell w0 d1 hok (by omega) (by omega)) ?_
  rintro _ _ ⟨rfl,rfl⟩
  conv=>whnf
  refine CallsA.lift (H0:=d1.H) [3,4] rfl ⟨rfl,rfl,rfl,rfl,trivial⟩ rfl (tellFrac w0 d1 (by omega) (by omega) (by omega)) ?_
  rintro _ _ ⟨rfl,rfl⟩
  conv=>whnf
  refine CallsA.lift (H0:=d1.H) [3,4] rfl ⟨rfl,rfl,rfl,rfl,trivial⟩ rfl (remaining w0 d1 hok) ?_
  rintro _ _ ⟨rfl,rfl⟩
  conv=>whnf
  refine ⟨hssl.symm,[ts],⟨rfl,rfl,?_⟩,by rw [hlen2]; omega,by rw [hlen2]; omega,?_⟩
  ·subst htells
   conv=>whnf
   exact seen_cells (wrap_mod _) (wrap_mod _) rfl
  conv=>whnf
  refine ⟨⟨k+2,by omega⟩,?_,?_⟩
  ·show EmbS 1 (decSt l d0 (k+1+1)) _
   rw [decSt_succ hafter hseen]
   refine ⟨[0,1,2,3,4,8],⟨rfl,⟨rfl,rfl,?_,rfl,rfl,rfl,by rfl,rfl,by rfl,rfl,by rfl,rfl,trivial⟩,rfl⟩,rfl,rfl,rfl,rfl,rfl,?_,trivial⟩
   ·show some (Blk.cells 61 [.vec 8 (ss++[ts]).length])=some (Blk.cells 61 [.vec 8 (k+1+1)])
    rw [hlen2]
   refine eq_i64 ?_
   rw [nadd,nwrapi (by omega)]
  show l.length - (k+2)<l.length - (k+1)
  omega
 have h1:l.length≤k+1:=lt_f h1
 have hlk:l.length=k+1:=by omega
 conv=>whnf
 refine Or.inr ⟨[0,5],.t [.c (.vec 1 l.length),.c (.val (.int .i64 0))],[.vec true 83 encOp [] 6 l,.vec true 67 encSeen [] 6 (d0.seen l)],⟨rfl,⟨rfl,rfl,?_,rfl,trivial⟩,rfl⟩,?_,rfl,rfl⟩
 ·have:l.take (k+1)=l:=List.take_of_length_le (by omega)
  show some (Blk.vec true 67 encSeen [] 6 (d0.seen (l.take (k+1))))=some (Blk.vec true 67 encSeen [] 6 (d0.seen l))
  rw [this]
 rw [hlk]
 rfl
end Go.Proofs.YtbpogapddpacoaaGreatDoor
end
end
section
section
namespace Go.Proofs.YtbpogapddpacoaaGreatDoor
open Go Go.Vc
set_option maxRecDepth 100000
set_option maxHeartbeats 8000000
structure EncS where
 buf:List Int
 tail:List Int
 win:Nat
 nend:Nat
 rng:Nat
 low:Nat
 rem:Int
 ext:Nat
 total:Nat
def EncS.blk (e:EncS) (i j:Nat):Blk := .cells 86 [.vec i e.buf.length,.vec j e.tail.length,.val (.int .u64 e.win),.val (.int .u64 e.nend),.val (.int .u32 e.rng),.val (.int .u32 e.low),.val (.int .i64 e.rem),.val (.int .i64 e.ext),.val (.int .u64 e.total)]
def byteBlk (xs:List Int):Blk := .vec true 5 (encI .u8) [] 1 xs
def EncS.H (e:EncS):List Blk:=[e.blk 1 2,byteBlk e.buf,byteBlk e.tail]
def EncS.init:EncS:=⟨[],[],0,0,2147483648,0,-1,0,33⟩
theorem encInit (w0:World):CallsA Tryz.prog w0 30 [.c (.ptr 0 0)] [.cells 86 [.val (.slice none 0 0),.val (.slice none 0 0),.val (.int .u64 0),.val (.int .u64 0),.val (.int .u32 0),.val (.int .u32 0),.val (.int .i64 0),.val (.int .i64 0),.val (.int .u64 0)]] fun r H=>r = .t []∧H=EncS.init.H:=by
 refine callsA_of_ev c30_ ?_
 conv=>whnf
 refine ⟨rfl,rfl,Or.inr ⟨5,Int,encI .u8,by omega,fun _=>rfl,?_⟩⟩
 conv=>whnf
 refine ⟨rfl,rfl,Or.inr ⟨5,Int,encI .u8,by omega,fun _=>rfl,?_⟩⟩
 conv=>whnf
 exact Or.inl ⟨rfl,rfl⟩
theorem encFinal (w0:World) (e:EncS):CallsA Tryz.prog w0 38 [.c (.ptr 0 0)] e.H fun r H=>r=u32 e.rng∧H=e.H:=by
 refine callsA_of_ev c38_ ?_
 conv=>whnf
 exact Or.inl ⟨rfl,rfl⟩
def EncS.tell (e:EncS):Nat:=e.total - len e.rng
theorem encTell (w0:World) (e:EncS) (h:e.total≤4611686018427387904) (h1:1≤e.rng) (h2:e.rng<4294967296):CallsA Tryz.prog w0 39 [.c (.ptr 0 0)] e.H fun r H=>r=u64 e.tell∧H=e.H:=by
 have hl1:=le_len (n:=e.rng) (k:=0) h1
 have hl2:=len_le (n:=e.rng) (k:=32) h2
 refine callsA_of_ev c39_ ?_
 conv=>whnf
 refine (len32 w0 e.H h2).mono ?_
 rintro _ _ ⟨rfl,rfl⟩
 conv=>whnf
 refine Or.inl ?_
 conv=>whnf
 simp (disch:=omega) only [nwrap64]
 refine ⟨fun h3 => ?_,fun h3 => ?_⟩
 ·have:=beq_t h3
  omega
 conv=>whnf
 refine Or.inl ?_
 conv=>whnf
 refine ⟨fun h4 => ?_,fun h4 => ?_⟩
 ·have h4:=le_t h4
  conv=>whnf
  refine Or.inl ⟨u64_of ?_,rfl⟩
  unfold EncS.tell
  omega
 have h4:=le_f h4
 conv=>whnf
 refine Or.inl ⟨u64_of ?_,rfl⟩
 unfold EncS.tell
 rw [nsub (by omega),nwrap64 (by omega)]
theorem EncS.embH {e:EncS} {H:List Blk} {e0 env:Env} (hd:H=e.H) (he:embE [0,1,2] env e0):EmbS 3 ⟨e0,e.H⟩ ⟨env,H⟩:=by
 subst hd
 exact ⟨[0,1,2],⟨rfl,⟨rfl,rfl,rfl,rfl,rfl,rfl,trivial⟩,rfl⟩,he⟩
def EncS.frac (e:EncS):Nat:=Go.Proofs.YtbpogapddpacoaaGreatDoor.frac e.total e.rng
theorem encTellFrac (w0:World) (d:EncS) (hnb:d.total≤1152921504606846976) (h1:8388608≤d.rng) (h2:d.rng<4294967296):CallsA Tryz.prog w0 40 [.c (.ptr 0 0)] d.H fun r H=>r=u64 d.frac∧H=d.H:=by
 have hl1:=le_len (n:=d.rng) (k:=23) h1
 have hl2:=len_le (n:=d.rng) (k:=32) h2
 obtain ⟨ht1,ht2⟩:=top_bits h1
 refine callsA_of_ev c40_ ?_
 conv=>whnf
 refine (len32 w0 d.H h2).mono ?_
 rintro _ _ ⟨rfl,rfl⟩
 conv=>whnf
 refine Or.inl ?_
 conv=>whnf
 simp (disch:=omega) only [nwrap64]
 refine ⟨fun h3 => ?_,fun h3 => ?_⟩
 ·have h3:((len d.rng:Nat):Int)=((0:Nat):Int):=by simpa using h3
  omega
 conv=>whnf
 refine Or.inl ?_
 conv=>whnf
 refine ⟨fun h4 => ?_,fun h4 => ?_⟩
 ·have h4:=of_decide_eq_true h4
  have h4:((len d.rng:Nat):Int)<((24:Nat):Int):=h4
  omega
 conv=>whnf
 simp (disch:=omega) only [nsub,nwrap64]
 refine ⟨by omega,?_⟩
 conv=>whnf
 simp (disch:=omega) only [Int.toNat_natCast,nshr32,nwrap64]
 refine Or.inl ?_
 conv=>whnf
 refine ⟨_root_.Fin 4,fun ⟨k,_⟩=>⟨[(0,.o (.c (.ptr 0 0))),(3,.o (.c (.val (.int .u64 ((fracIter (d.rng / 2 ^ (len d.rng - 16),len d.rng) k).2:Nat))))),(4,.o (.c (.val (.int .u64 ((fracIter (d.rng / 2 ^ (len d.rng - 16),len d.rng) k).1:Nat))))),(33,.o (.c (.val (.int .i64 (k:Nat)))))],d.H⟩,fun k=>3 - k.1,⟨0,EncS.embH rfl ⟨rfl,rfl,rfl,rfl,trivial⟩⟩,fun ⟨k,hk⟩ => ?_⟩
 obtain ⟨a,b,c⟩:=fracIter_lt (p:=(d.rng / 2 ^ (len d.rng - 16),len d.rng)) ht1 ht2 hl2 k (by omega)
 have hpk:2 ^ k≤2 ^ 3:=Nat.pow_le_pow_right (by omega) (by omega)
 obtain ⟨a',b',c',d'⟩:=fracStep_lt a b
 conv=>whnf
 refine ⟨fun h5 => ?_,fun h5 => ?_⟩
 ·have h5:=of_decide_eq_true h5
  have h5:(k:Int)<((3:Nat):Int):=h5
  conv=>whnf
  refine Or.inl ?_
  conv=>whnf
  have hs:fracIter (d.rng / 2 ^ (len d.rng - 16),len d.rng) (k+1)=fracStep (fracIter (d.rng / 2 ^ (len d.rng - 16),len d.rng) k):=rfl
  generalize hq:fracIter (d.rng / 2 ^ (len d.rng - 16),len d.rng) k=q at *
  obtain ⟨r,l⟩:=q
  simp only at a b c d'
  have hb2:r*r / 32768 / 65536≤1:=by omega
  simp (disch:=omega) only [nmul,nwrap64,nshr64,nadd]
  refine ⟨fun h6 => ?_,fun h6 => ?_⟩
  ·have h6:r*r / 2 ^ 15 / 2 ^ 16≠0:=by
    intro h0
    rw [h0] at h6
    cases h6
   conv=>whnf
   refine ⟨⟨k+1,by omega⟩,EncS.embH rfl ⟨rfl,?_,?_,?_,trivial⟩,?_⟩
   ·refine eq_u64 ?_
    rw [hs]
    rfl
   ·refine eq_u64 ?_
    rw [hs,nshr64 _ _ (by omega),fracStep_pos h6]
   ·refine eq_i64 ?_
    rw [nadd,nwrapi (by omega)]
   show 3 - (k+1)<3 - k
   omega
  have h6:r*r / 2 ^ 15 / 2 ^ 16=0:=bne_f h6
  conv=>whnf
  refine ⟨⟨k+1,by omega⟩,EncS.embH rfl ⟨rfl,?_,?_,?_,trivial⟩,?_⟩
  ·refine eq_u64 ?_
   rw [hs]
   rfl
  ·refine eq_u64 ?_
   rw [hs,fracStep_neg h6]
  ·refine eq_i64 ?_
   rw [nadd,nwrapi (by omega)]
  show 3 - (k+1)<3 - k
  omega
 have h5:=of_decide_eq_false h5
 have h5:¬ (k:Int)<((3:Nat):Int):=h5
 have hk3:k=3:=by omega
 subst hk3
 conv=>whnf
 refine Or.inl ?_
 conv=>whnf
 simp (disch:=omega) only [nmul,nwrap64]
 refine ⟨fun h6 => ?_,fun h6 => ?_⟩
 ·have h6:=of_decide_eq_true h6
  conv=>whnf
  refine Or.inl ⟨u64_of ?_,rfl⟩
  have h6:((d.total*8:Nat):Int)≤((fracIter (d.rng / 2 ^ (len d.rng - 16),len d.rng) 3).2:Nat):=h6
  show (0:Int)=((d.total*8 - (fracIter (d.rng / 2 ^ (len d.rng - 16),len d.rng) 3).2:Nat):Int)
  omega
 have h6:=of_decide_eq_false h6
 conv=>whnf
 refine Or.inl ⟨u64_of ?_,rfl⟩
 have h6:¬ ((d.total*8:Nat):Int)≤((fracIter (d.rng / 2 ^ (len d.rng - 16),len d.rng) 3).2:Nat):=h6
 show _=((d.total*8 - (fracIter (d.rng / 2 ^ (len d.rng - 16),len d.rng) 3).2:Nat):Int)
 rw [nsub (by omega),nwrap64 (by omega)]
theorem bitMaskW (w0:World) (H:List Blk) {n:Nat} (h:n<32):CallsA Tryz.prog w0 76 [.c (.val (.int .u64 n))] H fun r H'=>r=u32 (2 ^ n - 1)∧H'=H:=by
 have hp:2 ^ n≤2 ^ 31:=Nat.pow_le_pow_right (by omega) (by omega)
 have hp0:1≤2 ^ n:=Nat.one_le_two_pow
 refine callsA_of_ev c76_ ?_
 conv=>whnf
 refine Or.inl ?_
 conv=>whnf
 refine ⟨fun h1=>absurd (ge_t h1) (by omega),fun _=>?_⟩
 conv=>whnf
 refine ⟨by omega,?_⟩
 conv=>whnf
 refine Or.inl ⟨u32_of ?_,rfl⟩
 rw [Int.toNat_natCast,nshl32 _ _ (by omega),Nat.one_mul,nwrap32 (by omega),nsub hp0,nwrap32 (by omega)]
theorem boolToIntW (w0:World) (H:List Blk) (b:Bool):CallsA Tryz.prog w0 80 [.c (.val (.bool b))] H fun r H'=>r=i64 (bif b then 1 else 0)∧H'=H:=by
 refine callsA_of_ev c80_ ?_
 conv=>whnf
 refine Or.inl ?_
 conv=>whnf
 refine ⟨fun h => ?_,fun h => ?_⟩
 ·subst h
  conv=>whnf
  exact Or.inl ⟨rfl,rfl⟩
 subst h
 conv=>whnf
 exact Or.inl ⟨rfl,rfl⟩
theorem shouldW (w0:World) (e:EncS) (n:Nat) (h:0<e.nend) (hb:e.buf.length≠0) (hn:e.nend≤n):CallsA Tryz.prog w0 81 [.c (.ptr 0 0),.c (.val (.int .u64 n))] e.H fun r H'=>r = .o (.c (.val (.bool false)))∧H'=e.H:=by
 refine callsA_of_ev c81_ ?_
 conv=>whnf
 refine ⟨fun _=>?_,fun h1=>absurd (gt_f h1) (by omega)⟩
 conv=>whnf
 refine ⟨fun h1=>absurd (beq_t h1) hb,fun _=>?_⟩
 conv=>whnf
 refine Or.inl ⟨?_,rfl⟩
 have:decide ((e.nend:Int)>(n:Int))=false:=decide_eq_false (by omega)
 rw [this]
 rfl
theorem carryN (w0:World) (e:EncS) (hr:e.rem = -1) (hx:e.ext=0) {v:Nat} (hv:v<255):CallsA Tryz.prog w0 79 [.c (.ptr 0 0),.c (.val (.int .i64 v))] e.H fun r H=>r = .t []∧H=({ e with rem:=v }:EncS).H:=by
 refine callsA_of_ev c79_ ?_
 conv=>whnf
 refine Or.inl ?_
 conv=>whnf
 refine ⟨fun h1 => ?_,fun h1=>absurd (bne_f h1) (by omega)⟩
 conv=>whnf
 refine Or.inl ?_
 conv=>whnf
 refine ⟨fun h2=>absurd (of_decide_eq_true h2:(0:Int)≤e.rem) (by omega),fun _=>?_⟩
 conv=>whnf
 refine Or.inl ?_
 conv=>whnf
 refine ⟨fun h1=>absurd (gt_t h1) (by omega),fun _=>?_⟩
 conv=>whnf
 refine Or.inl ⟨rfl,?_⟩
 rw [nandi (by omega) (by omega),show (255:Nat)=2 ^ 8 - 1 by rfl,nand_mask,Nat.mod_eq_of_lt (by omega)]
 rfl
theorem carryP (w0:World) (e:EncS) (hr:0≤e.rem) (hr2:e.rem<256) (hx:e.ext=0) (hb:e.buf.length≤1048576) {v:Nat} (hv:v<255):CallsA Tryz.prog w0 79 [.c (.ptr 0 0),.c (.val (.int .i64 v))] e.H fun r H=>r = .t []∧H=[({ e with rem:=v,buf:=e.buf++[e.rem] }:EncS).blk 3 2,.dead,byteBlk e.tail,byteBlk (e.buf++[e.rem])]:=by
 refine callsA_of_ev c79_ ?_
 conv=>whnf
 refine Or.inl ?_
 conv=>whnf
 refine ⟨fun h1 => ?_,fun h1=>absurd (bne_f h1) (by omega)⟩
 conv=>whnf
 refine Or.inl ?_
 conv=>whnf
 refine ⟨fun _=>?_,fun h2=>absurd hr (of_decide_eq_false h2)⟩
 conv=>whnf
 refine ⟨⟨⟨rfl,rfl⟩,trivial⟩,?_⟩
 conv=>whnf
 have hX:IntKind.u8.wrap (IntKind.i64.wrap (e.rem+((v:Nat):Int).fdiv (2 ^ min 8 IntKind.i64.bits)))=e.rem:=by
  rw [nshri _ _ (by omega),show v / 2 ^ 8=0 by omega,IntKind.wrap_i64,IntKind.wrap_u8]
  omega
 refine ⟨rfl,[e.rem],⟨rfl,rfl,congrArg (fun x=>[CV.val (.int .u8 x)]) hX.symm⟩,by rw [List.length_append,List.length_singleton]; omega,by rw [List.length_append,List.length_singleton]; omega,?_⟩
 conv=>whnf
 refine ⟨trivial,?_⟩
 conv=>whnf
 refine ⟨trivial,?_⟩
 conv=>whnf
 refine Or.inl ?_
 conv=>whnf
 refine ⟨fun h1=>absurd (gt_t h1) (by omega),fun _=>?_⟩
 conv=>whnf
 have hrem:IntKind.i64.wrap (((BitVec.ofInt IntKind.i64.bits (v:Int) &&& BitVec.ofInt IntKind.i64.bits ((255:Nat):Int)).toNat:Nat):Int)=(v:Int):=by
  rw [nandi (by omega) (by omega),show (255:Nat)=2 ^ 8 - 1 by rfl,nand_mask,Nat.mod_eq_of_lt (by omega)]
 refine Or.inr ⟨[0,1,2,4],.t [],[({ e with rem:=v,buf:=e.buf++[e.rem] }:EncS).blk 3 2,.dead,byteBlk e.tail,byteBlk (e.buf++[e.rem])],⟨rfl,⟨congrArg (fun x:Int=>some (Blk.cells 86 [.vec 4 (e.buf++[e.rem]).length,.vec 2 e.tail.length,.val (.int .u64 e.win),.val (.int .u64 e.nend),.val (.int .u32 e.rng),.val (.int .u32 e.low),.val (.int .i64 x),.val (.int .i64 e.ext),.val (.int .u64 e.total)])) hrem,rfl,Nat.le_of_ble_eq_true rfl,rfl,rfl,rfl,rfl,trivial⟩,rfl⟩,rfl,rfl,rfl⟩
theorem normStop (w0:World) (e:EncS) (h:8388608<e.rng):CallsA Tryz.prog w0 74 [.c (.ptr 0 0)] e.H fun r H=>r = .t []∧H=e.H:=by
 refine callsA_of_ev c74_ ?_
 conv=>whnf
 refine ⟨Unit,fun _=>⟨[(0,.o (.c (.ptr 0 0)))],e.H⟩,fun _=>0,⟨(),EncS.embH rfl ⟨rfl,trivial⟩⟩,fun _=>?_⟩
 conv=>whnf
 refine ⟨fun h1=>absurd (le_t h1) (by omega),fun _=>?_⟩
 conv=>whnf
 exact Or.inl ⟨rfl,rfl⟩
def E1:EncS:=⟨[],[],0,0,8589934,1666447344,-1,0,33⟩
def E2:EncS:=⟨[],[],1,2,8589934,1666447344,-1,0,35⟩
theorem cumA (w0:World):CallsA Tryz.prog w0 31 [.c (.ptr 0 0),.c (.val (.int .u32 ((194:Nat):Int))),.c (.val (.int .u32 ((195:Nat):Int))),.c (.val (.int .u32 ((250:Nat):Int)))] EncS.init.H fun r H=>r = .t []∧H=E1.H:=by
 refine callsA_of_ev c31_ ?_
 conv=>whnf
 refine Or.inl ?_
 conv=>whnf
 refine ⟨fun h=>absurd (beq_t h) (by decide),fun _=>?_⟩
 conv=>whnf
 refine ⟨fun h=>absurd (ge_t h) (by decide),fun _=>?_⟩
 conv=>whnf
 refine ⟨fun h=>absurd (gt_t h) (by decide),fun _=>?_⟩
 conv=>whnf
 refine ⟨by decide,?_⟩
 conv=>whnf
 refine Or.inl ?_
 conv=>whnf
 refine ⟨fun _=>?_,fun h=>absurd (bne_f h) (by decide)⟩
 conv=>whnf
 refine ⟨by first | exact trivial | exact ⟨⟨rfl,rfl⟩,trivial⟩,?_⟩
 conv=>whnf
 refine (normStop w0 E1 (by decide)).mono ?_
 rintro _ _ ⟨rfl,rfl⟩
 conv=>whnf
 exact Or.inl ⟨rfl,rfl⟩
theorem rawA (w0:World):CallsA Tryz.prog w0 36 [.c (.ptr 0 0),.c (.val (.int .u64 ((2:Nat):Int))),.c (.val (.int .u32 ((1:Nat):Int)))] E1.H fun r H=>r = .t []∧H=E2.H:=by
 refine callsA_of_ev c36_ ?_
 conv=>whnf
 refine Or.inl ?_
 conv=>whnf
 refine ⟨fun h=>absurd (beq_t h) (by decide),fun _=>?_⟩
 conv=>whnf
 refine Or.inl ?_
 conv=>whnf
 refine ⟨fun _=>?_,fun h=>absurd (lt_f h) (by decide)⟩
 conv=>whnf
 refine (bitMaskW w0 E1.H (n:=2) (by decide)).mono ?_
 rintro _ _ ⟨rfl,rfl⟩
 conv=>whnf
 refine ⟨by decide,?_⟩
 conv=>whnf
 refine ⟨by first | exact trivial | exact ⟨⟨rfl,rfl⟩,trivial⟩,?_⟩
 conv=>whnf
 refine ⟨Unit,fun _=>⟨[(0,.o (.c (.ptr 0 0)))],E2.H⟩,fun _=>0,⟨(),EncS.embH rfl ⟨rfl,trivial⟩⟩,fun _=>?_⟩
 conv=>whnf
 refine ⟨fun h=>absurd (ge_t h) (by decide),fun _=>?_⟩
 conv=>whnf
 exact Or.inl ⟨rfl,rfl⟩
theorem uniA (w0:World):CallsA Tryz.prog w0 35 [.c (.ptr 0 0),.c (.val (.int .u32 ((1000:Nat):Int))),.c (.val (.int .u32 ((777:Nat):Int)))] EncS.init.H fun r H=>r = .t []∧H=E2.H:=by
 refine callsA_of_ev c35_ ?_
 conv=>whnf
 refine Or.inl ?_
 conv=>whnf
 refine ⟨fun h=>absurd (le_t h) (by decide),fun _=>?_⟩
 conv=>whnf
 refine Or.inl ?_
 conv=>whnf
 refine ⟨fun h=>absurd (ge_t h) (by decide),fun _=>?_⟩
 conv=>whnf
 refine (len32 w0 EncS.init.H (n:=999) (by decide)).mono ?_
 rintro _ _ ⟨rfl,rfl⟩
 conv=>whnf
 refine Or.inl ?_
 conv=>whnf
 refine ⟨fun h=>absurd (le_t h) (by decide),fun _=>?_⟩
 conv=>whnf
 refine ⟨by decide,?_⟩
 conv=>whnf
 refine ⟨by decide,?_⟩
 conv=>whnf
 refine (cumA w0).mono ?_
 rintro _ _ ⟨rfl,rfl⟩
 conv=>whnf
 refine (bitMaskW w0 E1.H (n:=2) (by decide)).mono ?_
 rintro _ _ ⟨rfl,rfl⟩
 conv=>whnf
 refine (rawA w0).mono ?_
 rintro _ _ ⟨rfl,rfl⟩
 conv=>whnf
 exact Or.inl ⟨rfl,rfl⟩
def E3:EncS:=⟨[],[],1,2,8589934,1666447344,199,0,35⟩
def E4:EncS:=⟨[199],[],1,2,8589934,1666447344,0,0,35⟩
def flushSt:Nat→S
 | 0=>⟨[(0,.o (.c (.ptr 0 0))),(3,.o (.c (.val (.int .i64 ((9:Nat):Int))))),(5,.o (.c (.val (.int .u32 ((1669332992:Nat):Int)))))],E2.H⟩
 | 1=>⟨[(0,.o (.c (.ptr 0 0))),(3,.o (.c (.val (.int .i64 ((1:Nat):Int))))),(5,.o (.c (.val (.int .u32 ((0:Nat):Int)))))],E3.H⟩
 | _=>⟨[(0,.o (.c (.ptr 0 0))),(3,.o (.c (.val (.int .i64 (-7))))),(5,.o (.c (.val (.int .u32 ((0:Nat):Int)))))],[E4.blk 3 2,.dead,byteBlk [],byteBlk [199]]⟩
theorem flushA (w0:World):CallsA Tryz.prog w0 78 [.c (.ptr 0 0)] E2.H fun r H=>r=i64 (-7)∧H=[E4.blk 3 2,.dead,byteBlk [],byteBlk [199]]:=by
 refine callsA_of_ev c78_ ?_
 conv=>whnf
 refine (len32 w0 E2.H (n:=8589934) (by decide)).mono ?_
 rintro _ _ ⟨rfl,rfl⟩
 conv=>whnf
 refine ⟨by decide,?_⟩
 conv=>whnf
 refine Or.inl ?_
 conv=>whnf
 refine ⟨fun _=>?_,fun h=>absurd h (by decide)⟩
 conv=>whnf
 refine Or.inl ?_
 conv=>whnf
 refine ⟨_root_.Fin 3,fun ⟨k,_⟩=>flushSt k,fun k=>3 - k.1,⟨⟨0,by decide⟩,EncS.embH (e:=E2) rfl ⟨rfl,rfl,rfl,trivial⟩⟩,fun ⟨k,hk⟩ => ?_⟩
 rcases k with _ | _ | _ | k
 ·conv=>whnf
  refine ⟨fun _=>?_,fun h=>absurd h (by decide)⟩
  conv=>whnf
  refine (carryN w0 E2 rfl rfl (v:=199) (by decide)).mono ?_
  rintro _ _ ⟨rfl,rfl⟩
  conv=>whnf
  exact ⟨⟨1,by decide⟩,EncS.embH (e:=E3) rfl ⟨rfl,rfl,rfl,trivial⟩,(by show 3 - 1<3 - 0; decide)⟩
 ·conv=>whnf
  refine ⟨fun _=>?_,fun h=>absurd h (by decide)⟩
  conv=>whnf
  refine (carryP w0 E3 (by decide) (by decide) rfl (by decide) (v:=0) (by decide)).mono ?_
  rintro _ _ ⟨rfl,rfl⟩
  conv=>whnf
  exact ⟨⟨2,by decide⟩,⟨[0,1,2,3],⟨rfl,⟨rfl,rfl,by decide,rfl,rfl,rfl,rfl,trivial⟩,rfl⟩,rfl,rfl,rfl,trivial⟩,(by show 3 - 2<3 - 1; decide)⟩
 ·conv=>whnf
  refine ⟨fun h=>absurd h (by decide),fun _=>?_⟩
  conv=>whnf
  exact Or.inl ⟨rfl,rfl⟩
 omega
def E5:EncS:=⟨[199,0],[],1,2,8589934,1666447344,0,0,35⟩
theorem doneA (w0:World):CallsA Tryz.prog w0 41 [.c (.ptr 0 0)] E2.H fun r H=>r = .o (.c (.vec 3 2))∧H=[.dead,.dead,.dead,byteBlk [199,1]]:=by
 refine callsA_of_ev c41_ ?_
 conv=>whnf
 refine (flushA w0).mono ?_
 rintro _ _ ⟨rfl,rfl⟩
 conv=>whnf
 refine Or.inl ?_
 conv=>whnf
 refine ⟨fun _=>?_,fun h=>absurd h (by decide)⟩
 conv=>whnf
 refine CallsA.lift (H0:=E4.H) [0,3,2] rfl ⟨rfl,rfl,rfl,rfl,rfl,rfl,trivial⟩ rfl (carryP w0 E4 (by decide) (by decide) rfl (by decide) (v:=0) (by decide)) ?_
 rintro _ _ ⟨rfl,rfl⟩
 conv=>whnf
 refine Or.inl ?_
 conv=>whnf
 refine ⟨fun _=>?_,fun h=>absurd h (by decide)⟩
 conv=>whnf
 refine CallsA.lift (H0:=E5.H) [0,4,2] rfl ⟨rfl,rfl,rfl,rfl,rfl,rfl,trivial⟩ rfl (shouldW w0 E5 7 (by decide) (by decide) (by decide)) ?_
 rintro _ _ ⟨rfl,rfl⟩
 conv=>whnf
 refine ⟨⟨⟨rfl,rfl⟩,⟨rfl,rfl⟩,trivial⟩,?_⟩
 conv=>whnf
 refine (boolToIntW w0 _ false).mono ?_
 rintro _ _ ⟨rfl,rfl⟩
 conv=>whnf
 refine ⟨⟨⟨rfl,rfl⟩,⟨rfl,rfl⟩,trivial⟩,?_⟩
 conv=>whnf
 refine ⟨by decide,?_⟩
 conv=>whnf
 refine ⟨Int,encI .u8,[],0,fun _=>rfl,rfl,?_⟩
 conv=>whnf
 refine Or.inl ?_
 conv=>whnf
 refine ⟨by first | exact trivial | exact ⟨⟨rfl,rfl⟩,trivial⟩ | exact ⟨⟨rfl,rfl⟩,⟨rfl,rfl⟩,trivial⟩,?_⟩
 conv=>whnf
 refine ⟨rfl,[199,0],⟨rfl,by decide,rfl,rfl⟩,by decide,?_⟩
 conv=>whnf
 refine Or.inl ?_
 conv=>whnf
 refine ⟨Unit,fun _=>⟨[(0,.o (.c (.ptr 0 0))),(4,.o (.c (.val (.int .u64 ((7:Nat):Int))))),(5,.o (.c (.vec 5 2))),(56,.o (.c (.vec 2 0))),(57,.o (.c (.val (.int .i64 ((0:Nat):Int))))),(58,.o (.c (.val (.int .i64 ((0:Nat):Int)))))],[E5.blk 4 2,.dead,byteBlk [],.dead,byteBlk [199,0],byteBlk [199,0]]⟩,fun _=>0,⟨(),[0,1,2,3,4,5],⟨rfl,⟨rfl,rfl,by decide,rfl,rfl,by decide,rfl,rfl,rfl,rfl,trivial⟩,rfl⟩,rfl,rfl,rfl,rfl,rfl,rfl,trivial⟩,fun _=>?_⟩
 conv=>whnf
 refine ⟨fun h=>absurd h (by decide),fun _=>?_⟩
 conv=>whnf
 refine Or.inl ?_
 conv=>whnf
 refine ⟨fun _=>?_,fun h=>absurd h (by decide)⟩
 conv=>whnf
 refine (bitMaskW w0 _ (n:=2) (by decide)).mono ?_
 rintro _ _ ⟨rfl,rfl⟩
 conv=>whnf
 refine ⟨⟨⟨rfl,rfl⟩,trivial⟩,?_⟩
 conv=>whnf
 refine CallsA.lift (H0:=E5.H) [0,4,2] rfl ⟨rfl,rfl,rfl,rfl,rfl,rfl,trivial⟩ rfl (shouldW w0 E5 7 (by decide) (by decide) (by decide)) ?_
 rintro _ _ ⟨rfl,rfl⟩
 conv=>whnf
 refine ⟨(fun h=>by cases h),fun _=>?_⟩
 conv=>whnf
 refine ⟨by decide,?_⟩
 conv=>whnf
 refine ⟨0,rfl,?_⟩
 conv=>whnf
 refine ⟨by decide,?_⟩
 conv=>whnf
 refine ⟨0,1,rfl,rfl,?_⟩
 conv=>whnf
 exact Or.inr ⟨[0,1,2,5],.o (.c (.vec 3 2)),[.dead,.dead,.dead,byteBlk [199,1]],⟨rfl,⟨Nat.le_of_ble_eq_true rfl,Nat.le_of_ble_eq_true rfl,Nat.le_of_ble_eq_true rfl,rfl,rfl,trivial⟩,rfl⟩,rfl,rfl,rfl⟩
def oA:OpV:=⟨3,1000,777,0,0,.slice none 0 0,[]⟩
def opsA:Blk := .vec true 83 encOp [] 6 [oA]
def seenA:SeenV:=⟨0,true,8589934,E2.tell,E2.frac,0⟩
def encASt:Nat→S
 | 0=>⟨[(2,.o (.c (.ptr 1 0))),(3,.o (.c (.ptr 2 0))),(4,.o (.c (.ptr 3 0))),(5,.o (.c (.ptr 4 0))),(10,.o (.c (.vec 0 1))),(11,.o (.c (.val (.int .i64 ((1:Nat):Int))))),(12,.o (.c (.val (.int .i64 ((0:Nat):Int)))))],[opsA,.cells 9 [.val (.string ByteArray.empty)],.cells 61 [.val (.slice none 0 0)],.cells 3 [.val (.int .i64 ((0:Nat):Int))],EncS.init.blk 5 6,byteBlk [],byteBlk []]⟩
 | _=>⟨[(2,.o (.c (.ptr 1 0))),(3,.o (.c (.ptr 2 0))),(4,.o (.c (.ptr 3 0))),(5,.o (.c (.ptr 4 0))),(10,.o (.c (.vec 0 1))),(11,.o (.c (.val (.int .i64 ((1:Nat):Int))))),(12,.o (.c (.val (.int .i64 ((1:Nat):Int)))))],[opsA,.cells 9 [.val (.string ByteArray.empty)],.cells 61 [.vec 7 1],.cells 3 [.val (.int .i64 ((0:Nat):Int))],E2.blk 5 6,byteBlk [],byteBlk [],.vec true 67 encSeen [] 6 [seenA]]⟩
theorem encodeA (w0:World):CallsA Tryz.prog w0 17 [.c (.vec 0 1)] [opsA] fun r H => ∃ s:SeenV,r = .t [.c (.val (.string (strOf [199,1]))),.c (.vec 1 1),.c (.val (.int .i64 ((0:Nat):Int)))]∧H=[opsA,.vec true 67 encSeen [] 6 [s]]:=by
 refine callsA_of_evD c17_ ?_
 conv=>whnf
 refine CallsA.lift (H0:=[.cells 86 [.val (.slice none 0 0),.val (.slice none 0 0),.val (.int .u64 0),.val (.int .u64 0),.val (.int .u32 0),.val (.int .u32 0),.val (.int .i64 0),.val (.int .i64 0),.val (.int .u64 0)]]) [4] rfl ⟨rfl,rfl,trivial⟩ rfl (encInit w0) ?_
 rintro _ _ ⟨rfl,rfl⟩
 conv=>whnf
 refine Or.inl ?_
 conv=>whnf
 refine ⟨_root_.Fin 2,fun ⟨k,_⟩=>encASt k,fun k=>2 - k.1,⟨⟨0,by decide⟩,⟨[0,1,2,3,4,5,6],⟨rfl,⟨rfl,rfl,rfl,rfl,rfl,rfl,rfl,rfl,rfl,rfl,rfl,rfl,rfl,rfl,trivial⟩,rfl⟩,rfl,rfl,rfl,rfl,rfl,rfl,rfl,trivial⟩⟩,fun ⟨k,hk⟩ => ?_⟩
 rcases k with _ | _ | k
 ·conv=>whnf
  refine ⟨fun _=>?_,fun h=>absurd h (by decide)⟩
  conv=>whnf
  refine Or.inl ?_
  conv=>whnf
  refine ⟨by decide,?_⟩
  conv=>whnf
  refine ⟨oA,rfl,?_⟩
  conv=>whnf
  refine Or.inl ?_
  conv=>whnf
  refine ⟨fun h=>absurd h (by decide),fun _=>?_⟩
  conv=>whnf
  refine ⟨fun h=>absurd h (by decide),fun _=>?_⟩
  conv=>whnf
  refine ⟨fun h=>absurd h (by decide),fun _=>?_⟩
  conv=>whnf
  refine ⟨fun _=>?_,fun h=>absurd h (by decide)⟩
  conv=>whnf
  refine CallsA.lift (H0:=EncS.init.H) [4,5,6] rfl ⟨rfl,rfl,rfl,rfl,rfl,rfl,trivial⟩ rfl (uniA w0) ?_
  rintro _ _ ⟨rfl,rfl⟩
  conv=>whnf
  refine CallsA.lift (H0:=E2.H) [4,5,6] rfl ⟨rfl,rfl,rfl,rfl,rfl,rfl,trivial⟩ rfl (encFinal w0 E2) ?_
  rintro _ _ ⟨rfl,rfl⟩
  conv=>whnf
  refine ⟨⟨⟨rfl,rfl⟩,trivial⟩,?_⟩
  conv=>whnf
  refine CallsA.lift (H0:=E2.H) [4,5,6] rfl ⟨rfl,rfl,rfl,rfl,rfl,rfl,trivial⟩ rfl (encTell w0 E2 (by decide) (by decide) (by decide)) ?_
  rintro _ _ ⟨rfl,rfl⟩
  conv=>whnf
  refine ⟨⟨⟨rfl,rfl⟩,trivial⟩,?_⟩
  conv=>whnf
  refine CallsA.lift (H0:=E2.H) [4,5,6] rfl ⟨rfl,rfl,rfl,rfl,rfl,rfl,trivial⟩ rfl (encTellFrac w0 E2 (by decide) (by decide) (by decide)) ?_
  rintro _ _ ⟨rfl,rfl⟩
  conv=>whnf
  refine ⟨⟨⟨rfl,rfl⟩,trivial⟩,?_⟩
  conv=>whnf
  refine ⟨⟨⟨rfl,rfl⟩,trivial⟩,?_⟩
  conv=>whnf
  refine ⟨by decide,SeenV,encSeen,[],[seenA],fun _=>rfl,⟨rfl,rfl,rfl⟩,by decide,by decide,?_⟩
  conv=>whnf
  refine ⟨by first | exact trivial | exact ⟨⟨rfl,rfl⟩,trivial⟩,?_⟩
  conv=>whnf
  refine ⟨by first | exact trivial | exact ⟨⟨rfl,rfl⟩,trivial⟩,?_⟩
  conv=>whnf
  exact ⟨⟨1,by decide⟩,⟨[0,1,2,3,4,5,6,9],⟨rfl,⟨rfl,rfl,rfl,rfl,rfl,rfl,rfl,rfl,rfl,rfl,rfl,rfl,rfl,rfl,rfl,rfl,trivial⟩,rfl⟩,rfl,rfl,rfl,rfl,rfl,rfl,rfl,trivial⟩,(by show 2 - 1<2 - 0; decide)⟩
 ·conv=>whnf
  refine ⟨fun h=>absurd h (by decide),fun _=>?_⟩
  conv=>whnf
  refine CallsA.lift (H0:=E2.H) [4,5,6] rfl ⟨rfl,rfl,rfl,rfl,rfl,rfl,trivial⟩ rfl (doneA w0) ?_
  rintro _ _ ⟨rfl,rfl⟩
  conv=>whnf
  refine ⟨⟨⟨rfl,rfl⟩,trivial⟩,?_⟩
  conv=>whnf
  refine ⟨trivial,[199,1],⟨rfl,by decide,rfl,rfl⟩,?_⟩
  conv=>whnf
  refine ⟨⟨⟨rfl,rfl⟩,trivial⟩,?_⟩
  conv=>whnf
  refine ⟨by first | exact trivial | exact ⟨⟨rfl,rfl⟩,trivial⟩,?_⟩
  conv=>whnf
  refine ⟨by first | exact trivial | exact ⟨⟨rfl,rfl⟩,trivial⟩,?_⟩
  conv=>whnf
  refine Or.inr ⟨[0,7],.t [.c (.val (.string (strOf [199,1]))),.c (.vec 1 1),.c (.val (.int .i64 ((0:Nat):Int)))],[opsA,.vec true 67 encSeen [] 6 [seenA]],⟨rfl,⟨rfl,rfl,rfl,rfl,trivial⟩,rfl⟩,rfl,seenA,rfl,rfl⟩
 omega
def locA:Blk := .cells 59 [.val (.int .i64 ((3:Nat):Int)),.val (.int .u32 ((1000:Nat):Int)),.val (.int .u32 ((777:Nat):Int)),.val (.int .u32 ((0:Nat):Int)),.val (.int .i64 ((0:Nat):Int)),.val (.slice none 0 0)]
def opsLSt:Nat→S
 | 0=>⟨[(3,.o (.c (.val (.slice none 0 0)))),(6,.o (.c (.sli 0 6 0 1 1))),(7,.o (.c (.val (.int .i64 ((1:Nat):Int))))),(8,.o (.c (.val (.int .i64 ((0:Nat):Int)))))],[locA]⟩
 | _=>⟨[(3,.o (.c (.vec 1 1))),(6,.o (.c (.sli 0 6 0 1 1))),(7,.o (.c (.val (.int .i64 ((1:Nat):Int))))),(8,.o (.c (.val (.int .i64 ((1:Nat):Int)))))],[locA,opsA]⟩
theorem opsL (w0:World):CallsA Tryz.prog w0 16 [.c (.sli 0 6 0 1 1)] [locA] fun r H=>r = .o (.c (.vec 1 1))∧H=[locA,opsA]:=by
 refine callsA_of_ev c16_ ?_
 conv=>whnf
 refine Or.inl ?_
 conv=>whnf
 refine ⟨_root_.Fin 2,fun ⟨k,_⟩=>opsLSt k,fun k=>2 - k.1,⟨⟨0,by decide⟩,⟨[0],⟨rfl,⟨rfl,rfl,trivial⟩,rfl⟩,rfl,rfl,rfl,rfl,trivial⟩⟩,fun ⟨k,hk⟩ => ?_⟩
 rcases k with _ | _ | k
 ·conv=>whnf
  refine ⟨fun _=>?_,fun h=>absurd h (by decide)⟩
  conv=>whnf
  refine ⟨by decide,?_⟩
  conv=>whnf
  refine ⟨by decide,OpV,encOp,[],[oA],fun _=>rfl,⟨rfl,rfl,rfl⟩,by decide,by decide,?_⟩
  conv=>whnf
  exact ⟨⟨1,by decide⟩,⟨[0,3],⟨rfl,⟨rfl,rfl,rfl,rfl,trivial⟩,rfl⟩,rfl,rfl,rfl,rfl,trivial⟩,(by show 2 - 1<2 - 0; decide)⟩
 ·conv=>whnf
  refine ⟨fun h=>absurd h (by decide),fun _=>?_⟩
  conv=>whnf
  exact Or.inl ⟨rfl,rfl⟩
 omega
theorem goodA (w0:World):oA.good w0:=⟨by decide,by decide,by decide,Or.inr (Or.inr (Or.inr (Or.inl ⟨rfl,by decide⟩)))⟩
theorem readA:∃ s:SeenV,(Dec.init (bytesOf (strOf [199,1]))).seen [oA]=[s]∧s.value=((777:Nat):Int)∧s.fine=true:=⟨_,rfl,by kernel_rfl,by kernel_rfl⟩
theorem aliveW (w0:World):CallsA Tryz.prog w0 9 [] [] fun r H=>r = .o (.c (.val (.bool true)))∧H=[]:=by
 refine callsA_of_ev c9_ ?_
 conv=>whnf
 refine CallsA.lift (H0:=[locA]) [0] rfl ⟨rfl,rfl,trivial⟩ rfl (opsL w0) ?_
 rintro _ _ ⟨rfl,rfl⟩
 conv=>whnf
 refine CallsA.lift (H0:=[opsA]) [1] rfl ⟨rfl,rfl,trivial⟩ rfl (encodeA w0) ?_
 rintro _ _ ⟨sA,rfl,rfl⟩
 conv=>whnf
 refine CallsA.lift (H0:=[opsA]) [1] rfl ⟨rfl,rfl,trivial⟩ rfl (decodeW w0 (b:=strOf [199,1]) (l:=[oA]) (by decide) (by decide) (by decide) ?_) ?_
 ·intro o ho
  rw [List.mem_singleton] at ho
  subst ho
  exact ⟨goodA w0,rfl⟩
 rintro _ _ ⟨rfl,rfl⟩
 obtain ⟨s,hs,h1,h2⟩:=readA
 rw [hs]
 obtain ⟨sv,sf,sr,st,sc,sl⟩:=s
 simp only at h1 h2
 subst h1 h2
 clear hs
 conv=>whnf
 refine ⟨fun _=>?_,fun h=>absurd h (by decide)⟩
 conv=>whnf
 refine ⟨fun _=>?_,fun h=>absurd h (by decide)⟩
 conv=>whnf
 refine ⟨fun _=>?_,fun h=>absurd h (by decide)⟩
 conv=>whnf
 refine ⟨by decide,?_⟩
 conv=>whnf
 refine ⟨_,rfl,?_⟩
 conv=>whnf
 refine ⟨fun _=>?_,fun h=>absurd rfl (ieq_f h)⟩
 conv=>whnf
 refine ⟨by decide,?_⟩
 conv=>whnf
 refine ⟨_,rfl,?_⟩
 conv=>whnf
 exact Or.inr ⟨[],.o (.c (.val (.bool true))),[],⟨rfl,trivial,rfl⟩,rfl,rfl,rfl⟩
end Go.Proofs.YtbpogapddpacoaaGreatDoor
end
end
section
namespace Go.Proofs.YtbpogapddpacoaaGreatDoor
open Go Go.Vc
set_option maxRecDepth 100000
set_option maxHeartbeats 8000000
theorem piecesOk {w0:World} {q Lx fr to:Nat} {s:Sc} {co:List Int} {σ:Type} {zO:σ → Z6} {F G:σ → List Int} {I:σ → Prop} {rn:σ → List Int→List Int × σ} (hpk:PK w0 q s co Lx zO F G I rn) (hfi:s.fi=fr) (hfo:s.fo=to) (hfr:0<fr) (hto:to≤48) (hdl:s.dl≤fr) :
 ∀ (xss:List (List Int)) (t:σ) (h:List Int),I t→h.length=fr→(∀ x∈h,S16 x)→(∀ xs∈xss,xs≠[]∧xs.length % fr=0∧xs.length≤100*fr ∧ ∀ x∈xs,S16 x) →
  ∀ y∈pieces rn fr s.dl t h xss,y.length≤4800 ∧ ∀ x∈y,S16 x
 | [],_,_,_,_,_,_=>by simp [pieces]
 | xs::r,t,h,hI,hh,hS,hok=>by
  obtain ⟨k1,k2,k3,k4⟩:=hok xs (List.mem_cons_self ..)
  have hzf:fr≤xs.length:=Nat.le_of_dvd (List.length_pos_iff.2 k1) (Nat.dvd_of_mod_eq_zero k2)
  have hPS:∀ x∈pcH fr s.dl h xs,S16 x:=by
   intro x hxm
   rcases List.mem_append.1 hxm with h1 | h1
   ·exact hS x (List.mem_of_mem_take h1)
   exact k4 x (List.mem_of_mem_take h1)
  have hRS:∀ x∈pcR fr s.dl xs,S16 x:=fun x hxm=>k4 x (List.mem_of_mem_drop (List.mem_of_mem_take hxm))
  have hI2:=hpk.inv _ _ hI hPS
  obtain ⟨J1,J2⟩:=piece_held (rn:=rn) (dl:=s.dl) (t:=t) hh hdl hzf hS k4
  intro y hy
  rcases List.mem_cons.1 hy with rfl | hy
  ·refine ⟨?_,fun x hx => ?_⟩
   ·rw [pieceLen hpk hfi hfo hfr hdl hI hPS hh hzf k2 rfl]
    have h1:xs.length / fr≤100:=Nat.div_le_of_le_mul (by rw [Nat.mul_comm]; exact k3)
    exact Nat.mul_le_mul h1 hto
   rcases List.mem_append.1 hx with h1 | h1
   ·exact hpk.out _ _ hI hPS x h1
   exact hpk.out _ _ hI2 hRS x h1
  exact piecesOk hpk hfi hfo hfr hto hdl r _ _ (hpk.inv _ _ hI2 hRS) J1 J2 (fun z hz=>hok z (List.mem_cons_of_mem _ hz)) y hy
theorem outOk (w0:World) (hU:upTab w0) (hT12:tab12 w0) {fr to:Nat} (hp:Pair fr to) {xss:List (List Int)} (hok:∀ xs∈xss,xs≠[]∧xs.length % fr=0∧xs.length≤100*fr ∧ ∀ x∈xs,S16 x) :
 (outP fr to (dlP fr to) xss).length=xss.length ∧ ∀ y∈outP fr to (dlP fr to) xss,y.length≤4800 ∧ ∀ x∈y,S16 x:=by
 obtain ⟨hR,hR1,hR2⟩:=ratP hp
 obtain ⟨hd,hdl⟩:=dlOk hp
 have hfr:=hp.1
 have hto:to≤48∧0<to:=by have:=hp.2; omega
 have hz:(zr fr).length=fr:=zr_len fr
 have hfr0:0<fr:=by omega
 unfold outP
 by_cases h1:to=fr
 ·subst h1
  rw [if_pos rfl]
  exact ⟨pieces_length ..,piecesOk (pkS w0 (dl:=dlP to to) (R:=0)) rfl rfl hfr0 hto.1 (Nat.le_of_lt hdl) _ _ _ trivial hz zr_S16 hok⟩
 rw [if_neg h1]
 by_cases h2:to=2*fr
 ·rw [if_pos h2]
  subst h2
  exact ⟨pieces_length ..,piecesOk (pk2 w0 hU (fr:=fr) (dl:=dlP fr (2*fr)) (R:=0) (by omega)) rfl rfl hfr0 hto.1 (Nat.le_of_lt hdl) _ _ _ Z6.zero_ok hz zr_S16 hok⟩
 rw [if_neg h2]
 by_cases h3:fr<to
 ·rw [if_pos h3]
  have hcnt:=cntP hp h1 h2
  have hu:upN fr to=1:=by unfold upN; rw [if_neg h1,if_neg h2,if_pos h3]
  rw [hu] at hcnt
  exact ⟨pieces_length ..,piecesOk (pkU w0 hU hT12 (dl:=dlP fr to) (by omega) (by omega) h3 h2 (by omega) hR2 hcnt) rfl rfl hfr0 hto.1 (Nat.le_of_lt hdl) _ _ _ ⟨Z6.zero_ok,rfl,zr_S16⟩ hz zr_S16 hok⟩
 rw [if_neg h3]
 obtain ⟨kd,hkd,hK,ho⟩:=kdOf hp (by omega)
 rw [← hkd]
 have hcnt:=cntP hp h1 h2
 have hu:upN fr to=0:=by unfold upN; rw [if_neg h1,if_neg h2,if_neg h3]
 rw [hu] at hcnt
 have hKD:KD kd:=by unfold KD; unfold DnK at hK; omega
 exact ⟨pieces_length ..,piecesOk (pkD w0 hKD (dl:=dlP fr to) (by omega) (by omega) (by omega) hR2 hcnt) rfl rfl hfr0 hto.1 (Nat.le_of_lt hdl) _ _ _ ⟨ar_zero kd,zr_len _,fun x hx=>by rw [List.eq_of_mem_replicate hx]; exact iB_zero⟩ hz zr_S16 hok⟩
def rK5:List Nat:=[8,12,16,24,48]
def rtB:Blk := .cells 3 [ci .i64 ((8000:Nat):Int),ci .i64 ((12000:Nat):Int),ci .i64 ((16000:Nat):Int),ci .i64 ((24000:Nat):Int),ci .i64 ((48000:Nat):Int)]
theorem rt_get {k:Nat} (h:k<5):[ci .i64 ((8000:Nat):Int),ci .i64 ((12000:Nat):Int),ci .i64 ((16000:Nat):Int),ci .i64 ((24000:Nat):Int),ci .i64 ((48000:Nat):Int)][(0+k)*1+0]? = some (ci .i64 ((rK5.getD k 0*1000:Nat):Int)):=by
 match k,h with
 | 0,_=>rfl
 | 1,_=>rfl
 | 2,_=>rfl
 | 3,_=>rfl
 | 4,_=>rfl
theorem rPair (f t:Nat):Pair (rK5.getD (f % 3) 0) (rK5.getD (t % 5) 0):=by
 have h1:f % 3=0∨f % 3=1∨f % 3=2:=by omega
 have h2:t % 5=0∨t % 5=1∨t % 5=2∨t % 5=3∨t % 5=4:=by omega
 rcases h1 with h | h | h <;> rcases h2 with g | g | g | g | g <;> rw [h,g] <;> unfold Pair <;> decide
theorem lawW (w0:World) (hpw:pows w0) (hT:dlyTab w0) (hC:coTab w0) (hU:upTab w0) (hT12:tab12 w0) {v:Value} {ys:List (Value × List Int)} {f t:Nat} (hv0:smpsAt w0 v ys) (_hf:f<256) (_ht:t<256) :
 CallsA Tryz.prog w0 3 [.c (.val v),.c (.val (.int .u8 f)),.c (.val (.int .u8 t))] [] fun r _=>r = .o (.c (.val (.bool true))):=by
 obtain ⟨A,c,rfl,hv⟩:=hv0.rows
 refine callsA_of_ev c3_ ?_
 conv=>whnf
 refine Or.inl ?_
 conv=>whnf
 refine (zz12W w0 hv).mono ?_
 rintro _ _ ⟨⟨bb,rfl,hbb⟩,rfl⟩
 conv=>whnf
 refine ⟨fun _=>?_,fun gb => ?_⟩
 ·conv=>whnf
  exact Or.inl rfl
 obtain ⟨hn31,hl31⟩:=hbb (by revert gb; cases bb <;> decide)
 conv=>whnf
 rw [ntmod]
 refine ⟨⟨Int.natCast_nonneg _,Int.ofNat_lt.2 (by omega)⟩,?_⟩
 conv=>whnf
 refine dropF_get (x:=ci .i64 ((rK5.getD (f % 3) 0*1000:Nat):Int)) (rt_get (by omega)) ?_
 conv=>whnf
 rw [ntmod]
 refine ⟨⟨Int.natCast_nonneg _,Int.ofNat_lt.2 (by omega)⟩,?_⟩
 conv=>whnf
 refine dropF_get (x:=ci .i64 ((rK5.getD (t % 5) 0*1000:Nat):Int)) (rt_get (by omega)) ?_
 conv=>whnf
 have hp:=rPair f t
 generalize rK5.getD (f % 3) 0=fr at *
 generalize rK5.getD (t % 5) 0=to at *
 refine Or.inl ?_
 conv=>whnf
 refine CallsA.liftE (H0:=[]) [] rfl trivial rfl (piecesF w0 hp.1 hv hn31 hl31) ?_
 rintro _ _ ⟨⟨b2,rfl,hb2⟩,rfl⟩
 refine ⟨.o (.c (.val (.bool b2))),[rtB],rfl,⟨rfl,trivial⟩,?_⟩
 conv=>whnf
 refine ⟨fun _=>?_,fun gb => ?_⟩
 ·conv=>whnf
  exact Or.inl rfl
 obtain ⟨hok,hn12⟩:=hb2 (by revert gb; cases b2 <;> decide)
 have hxs:∀ x∈ys,∀ z∈x.2,S16 z:=by
  intro x hx z hz
  obtain ⟨i,hi⟩:=List.mem_iff_getElem?.1 hx
  obtain ⟨a,_,_,hii⟩:=hv.at_ i x hi
  rcases hii with ⟨_,h⟩ | ⟨_,_,_,_,_,h⟩
  ·rw [h] at hz; cases hz
  obtain ⟨k,hk⟩:=List.mem_iff_getElem?.1 hz
  exact (h k z hk).1
 obtain ⟨ho1,ho2⟩:=outOk w0 hU hT12 hp (xss:=ys.map (·.2)) (by
  intro xs hx
  obtain ⟨x,hx2,rfl⟩:=List.mem_map.1 hx
  obtain ⟨g1,g2,g3⟩:=hok x hx2
  exact ⟨g1,g2,g3,hxs x hx2⟩)
 rw [List.length_map] at ho1
 conv=>whnf
 have hs:=sResP w0 (c:=c) hp hv hok (by omega)
 have hi:=iResP w0 hT hC hU hT12 (c:=c) hp hv hok (by omega)
 generalize outP fr to (dlP fr to) (ys.map (·.2))=yss at *
 have hyl:∀ y∈yss,y.length≤1000000:=fun y hy=>Nat.le_trans (ho2 y hy).1 (by decide)
 have hyS:∀ y∈yss,∀ x∈y,S16 x:=fun y hy=>(ho2 y hy).2
 have hy12:yss.length≤1000:=by omega
 cases yss with
 | nil =>
  have hn0:ys.length=0:=ho1.symm
  refine CallsA.liftE (H0:=[]) [] rfl trivial rfl hs ?_
  rintro _ _ ⟨rfl,rfl⟩
  refine ⟨.t [.c nilC,.c (.val (.int .i64 ((1:Nat):Int)))],[rtB],by rw [hn0]; rfl,⟨rfl,trivial⟩,?_⟩
  conv=>whnf
  refine Or.inl ?_
  conv=>whnf
  refine ⟨fun h=>absurd h (by decide),fun _=>?_⟩
  conv=>whnf
  refine CallsA.liftE (H0:=[]) [] rfl trivial rfl hi ?_
  rintro _ _ ⟨rfl,rfl⟩
  refine ⟨.t [.c (.vec 1 ([]:List (List Int)).length),.c (.val (.int .i64 ((0:Nat):Int)))],[rtB,oB 2 [],famS []],by rw [hn0]; rfl,⟨rfl,rfl,rfl,trivial⟩,?_⟩
  conv=>whnf
  refine ⟨fun _=>?_,fun h=>absurd h (by decide)⟩
  conv=>whnf
  refine (rowsV w0 hpw (H:=[rtB,oB 2 [],famS []]) (o:=1) (f:=2) (yss:=[]) rfl rfl hyS hy12 hyl).mono ?_
  rintro _ _ ⟨rfl,rfl⟩
  conv=>whnf
  refine CallsA.liftE (H0:=[]) [] rfl trivial rfl (rowsW w0 hpw (A:=none) (ys:=[]) (c:=0) ⟨Nat.zero_le _,fun i x hx=>by simp at hx⟩ (by simp) (by simp)) ?_
  rintro _ _ ⟨rfl,rfl⟩
  refine ⟨.o (.c (.val (.string (strOf (rowsL []))))),[rtB,oB 2 [],famS []],rfl,⟨rfl,rfl,rfl,trivial⟩,?_⟩
  conv=>whnf
  refine ⟨fun _=>?_,fun h=>absurd h (by rw [beq_self_eq_true]; decide)⟩
  conv=>whnf
  refine CallsA.liftE (H0:=[]) [] rfl trivial rfl (aliveW w0) ?_
  rintro _ _ ⟨rfl,rfl⟩
  refine ⟨.o (.c (.val (.bool true))),[rtB,oB 2 [],famS []],rfl,⟨rfl,rfl,rfl,trivial⟩,?_⟩
  conv=>whnf
  exact Or.inl rfl
 | cons y r =>
  obtain ⟨n,hn⟩:∃ n,ys.length=n+1:=⟨r.length,ho1.symm⟩
  refine CallsA.liftE (H0:=[]) [] rfl trivial rfl hs ?_
  rintro _ _ ⟨rfl,rfl⟩
  refine ⟨.t [.c (.vec 1 (y::r).length),.c (.val (.int .i64 ((1:Nat):Int)))],[rtB,oB 2 (y::r),famS (y::r)],by rw [ho1,hn]; rfl,⟨rfl,rfl,rfl,trivial⟩,?_⟩
  conv=>whnf
  refine Or.inl ?_
  conv=>whnf
  refine ⟨fun h=>absurd h (by decide),fun _=>?_⟩
  conv=>whnf
  refine CallsA.liftE (H0:=[]) [] rfl trivial rfl hi ?_
  rintro _ _ ⟨rfl,rfl⟩
  refine ⟨.t [.c (.vec 3 (y::r).length),.c (.val (.int .i64 ((0:Nat):Int)))],[rtB,oB 2 (y::r),famS (y::r),oB 4 (y::r),famS (y::r)],by rw [ho1]; rfl,⟨rfl,rfl,rfl,rfl,rfl,trivial⟩,?_⟩
  conv=>whnf
  refine ⟨fun _=>?_,fun h=>absurd h (by decide)⟩
  conv=>whnf
  refine (rowsV w0 hpw (H:=[rtB,oB 2 (y::r),famS (y::r),oB 4 (y::r),famS (y::r)]) (o:=3) (f:=4) (yss:=y::r) rfl rfl hyS hy12 hyl).mono ?_
  rintro _ _ ⟨rfl,rfl⟩
  conv=>whnf
  refine (rowsV w0 hpw (H:=[rtB,oB 2 (y::r),famS (y::r),oB 4 (y::r),famS (y::r)]) (o:=1) (f:=2) (yss:=y::r) rfl rfl hyS hy12 hyl).mono ?_
  rintro _ _ ⟨rfl,rfl⟩
  conv=>whnf
  refine ⟨fun _=>?_,fun h=>absurd h (by rw [beq_self_eq_true]; decide)⟩
  conv=>whnf
  refine CallsA.liftE (H0:=[]) [] rfl trivial rfl (aliveW w0) ?_
  rintro _ _ ⟨rfl,rfl⟩
  refine ⟨.o (.c (.val (.bool true))),[rtB,oB 2 (y::r),famS (y::r),oB 4 (y::r),famS (y::r)],rfl,⟨rfl,rfl,rfl,rfl,rfl,trivial⟩,?_⟩
  conv=>whnf
  exact Or.inl rfl
end Go.Proofs.YtbpogapddpacoaaGreatDoor
end
section
namespace Go.Proofs.YtbpogapddpacoaaGreatDoor
open Go Go.Vc
open Go.ChangeShapes Go.WideShapes Go.RowKit
theorem own:ownKnob Tryz.prog.godebug=none:=by kernel_rfl
theorem laidOut:laidOutB Tryz.prog=true:=by kernel_rfl
section
variable {H:Type} {P:Program} {enc:TypeId × Value→H} {w:World} {base:Nat} {spare:Nat→Bool} {held:Bool} {fuel:Nat} {t e t2:TypeId} {n n2:Nat} {k:IntKind} {cs:List Value}
theorem arr_ints (ha:P.underlying t=some (.array n e)) (he:P.underlying e=some (.int k)) (hc:P.cellsOf e=1) {ls:List Int} {pl:List MemPlace}
 (h:DataW.trod enc P w base spare held fuel t cs=some (.agg (ls.map fun z => .lit (.int k z)),pl)):∀ (i:Nat) x,ls[i]? = some x→cs[i]? = some (.int k x):=by
 obtain ⟨xs,m,_,hx,hl,hlen,hel⟩:=DataW.trod_array ha h
 intro i x hi
 have e3:(ls.map fun z=>(DataW.lit (.int k z):DataW H))=xs.map (·.1):=DataW.agg.inj (Prod.mk.inj hx).1
 have hil:=(List.getElem?_eq_some_iff.1 hi).1
 have hll:ls.length=xs.length:=by
  have:=congrArg List.length e3
  simpa using this
 have h1:=hel i (by omega)
 rw [hc,Nat.mul_one] at h1
 obtain ⟨y,hxi⟩:∃ y,xs[i]? = some y:=⟨_,List.getElem?_eq_getElem (by omega)⟩
 rw [hxi] at h1
 obtain ⟨z,e1,e2,_⟩:=DataW.trod_int he h1
 have e4:(xs.map (·.1))[i]? = some y.1:=by rw [List.getElem?_map,hxi]; rfl
 rw [← e3,List.getElem?_map,hi] at e4
 have e5:(DataW.lit (.int k x):DataW H)=y.1:=Option.some.inj e4
 rw [e2] at e5
 have e6:x=z:=by
  have:=DataW.lit.inj e5
  injection this
 have h2:((cs.drop i).take 1)[0]? = some (.int k z):=by rw [e1]; rfl
 rw [List.getElem?_take,if_pos (by omega),List.getElem?_drop,Nat.add_zero] at h2
 rw [h2,e6]
theorem arr2_ints (ha:P.underlying t=some (.array n t2)) (h2:P.underlying t2=some (.array n2 e)) (he:P.underlying e=some (.int k)) (hc:P.cellsOf e=1) {c:Nat} (hc2:P.cellsOf t2=c) {lss:List (List Int)} {pl:List MemPlace}
 (h:DataW.trod enc P w base spare held fuel t cs=some (.agg (lss.map fun ls => .agg (ls.map fun z => .lit (.int k z))),pl)) :
 ∀ (i:Nat) ls,lss[i]? = some ls → ∀ (j:Nat) x,ls[j]? = some x→cs[i*c+j]? = some (.int k x):=by
 obtain ⟨xs,m,_,hx,hl,hlen,hel⟩:=DataW.trod_array ha h
 intro i ls hi j x hj
 have e3:(lss.map fun ls=>(DataW.agg (ls.map fun z => .lit (.int k z)):DataW H))=xs.map (·.1):=DataW.agg.inj (Prod.mk.inj hx).1
 have hil:=(List.getElem?_eq_some_iff.1 hi).1
 have hll:lss.length=xs.length:=by
  have:=congrArg List.length e3
  simpa using this
 have h1:=hel i (by omega)
 rw [hc2] at h1
 obtain ⟨y,hxi⟩:∃ y,xs[i]? = some y:=⟨_,List.getElem?_eq_getElem (by omega)⟩
 rw [hxi] at h1
 have e4:(xs.map (·.1))[i]? = some y.1:=by rw [List.getElem?_map,hxi]; rfl
 rw [← e3,List.getElem?_map,hi] at e4
 have e5:(DataW.agg (ls.map fun z => .lit (.int k z)):DataW H)=y.1:=Option.some.inj e4
 obtain ⟨y1,y2⟩:=y
 obtain rfl:(DataW.agg (ls.map fun z => .lit (.int k z)):DataW H)=y1:=e5
 have h3:=arr_ints h2 he hc h1 j x hj
 rw [List.getElem?_take] at h3
 split at h3
 ·rw [List.getElem?_drop] at h3
  exact h3
 cases h3
end
theorem addG (g a n:Nat):(⟨g,a,none⟩:Addr).add n=⟨g,a+n,none⟩:=by
 simp only [Addr.add]
 split
 ·rename_i c
  simp_all
 rfl
theorem laid_ints {P:Program} {nm:String} {D:DataW Unit} {r:List (String × DataW Unit)} {W:World} {g n:Nat} {t e:TypeId} {k:IntKind} {ls:List Int} (h:laidMet P ((nm,D)::r) W) (hD:D = .agg (ls.map fun z => .lit (.int k z)))
 (hg:P.globalNamed nm=some g) (ht:(P.globals[g]?).map (·.type)=some t) (ha:P.underlying t=some (.array n e)) (he:P.underlying e=some (.int k)) (hc:P.cellsOf e=1) :
 ∀ (i:Nat) x,ls[i]? = some x→W.cell? ⟨g,i,none⟩=some (.int k x):=by
 obtain ⟨ps,⟨g0,t0,cs0,f0,p0,q0,hg0,ht0,hv0,hd0,_,e0⟩,_,hrows⟩:=h
 obtain rfl:=Option.some.inj (hg.symm.trans hg0)
 obtain rfl:=Option.some.inj (ht.symm.trans ht0)
 rw [hD] at hd0
 intro i x hi
 rw [World.var?_cell hg hv0 i,← Array.getElem?_toList]
 exact arr_ints ha he hc hd0 i x hi
theorem laid_ints2 {P:Program} {nm:String} {D:DataW Unit} {r:List (String × DataW Unit)} {W:World} {g n n2 c:Nat} {t t2 e:TypeId} {k:IntKind} {lss:List (List Int)} (h:laidMet P ((nm,D)::r) W) (hD:D = .agg (lss.map fun ls => .agg (ls.map fun z => .lit (.int k z))))
 (hg:P.globalNamed nm=some g) (ht:(P.globals[g]?).map (·.type)=some t) (ha:P.underlying t=some (.array n t2)) (h2:P.underlying t2=some (.array n2 e)) (he:P.underlying e=some (.int k)) (hc:P.cellsOf e=1) (hc2:P.cellsOf t2=c) :
 ∀ (i:Nat) ls,lss[i]? = some ls → ∀ (j:Nat) x,ls[j]? = some x→W.cell? ⟨g,i*c+j,none⟩=some (.int k x):=by
 obtain ⟨ps,⟨g0,t0,cs0,f0,p0,q0,hg0,ht0,hv0,hd0,_,e0⟩,_,hrows⟩:=h
 obtain rfl:=Option.some.inj (hg.symm.trans hg0)
 obtain rfl:=Option.some.inj (ht.symm.trans ht0)
 rw [hD] at hd0
 intro i ls hi j x hj
 rw [World.var?_cell hg hv0 (i*c+j),← Array.getElem?_toList]
 exact arr2_ints ha h2 he hc hc2 hd0 i ls hi j x hj
theorem cellsInt:Tryz.prog.cellsOf 3=1:=by kernel_rfl
theorem cells16:Tryz.prog.cellsOf 29=1:=by kernel_rfl
theorem cells64:Tryz.prog.cellsOf 80=1:=by kernel_rfl
theorem powsList:Rows.laid_internal_strconv_uint64pow10 (H:=Unit) = .agg (((List.range 20).map fun i=>((10 ^ i:Nat):Int)).map fun z => .lit (.int .u64 z)):=by kernel_rfl
theorem pows_of {W:World} {r:List (String × DataW Unit)} (h:laidMet Tryz.prog (("internal/strconv.uint64pow10", Rows.laid_internal_strconv_uint64pow10)::r) W):pows W:=by
 intro i hi
 have:=laid_ints (g:=16) (k := .u64) (ls:=(List.range 20).map fun i=>((10 ^ i:Nat):Int)) h powsList (by kernel_rfl) (by kernel_rfl) Tryz.underlying148 Tryz.underlying80 cells64 i ((10 ^ i:Nat):Int) (by rw [List.getElem?_map,List.getElem?_range hi]; rfl)
 rw [addG,Nat.zero_add,Nat.mul_one]
 exact this
theorem dly_of {W:World} {r:List (String × DataW Unit)} (h:laidMet Tryz.prog (("pub-carronade/pub/opus/inner/resample/silk.delayMatrixDec", Rows.laid_pub_carronade_pub_opus_inner_resample_silk_delayMatrixDec)::r) W):dlyTab W:=by
 have h1:=laid_ints2 (g:=0) (k := .i64) (c:=5) (lss:=[[4,0,2,0,0],[0,9,4,7,4],[0,3,12,7,7]]) h (by kernel_rfl) (by kernel_rfl) (by kernel_rfl) Tryz.underlying69 Tryz.underlying68 Tryz.underlying3 cellsInt (by kernel_rfl)
 intro i hi k hk
 rw [addG,addG,addG,Nat.mul_one,Nat.add_zero,Nat.zero_add]
 have h3:i=0∨i=1∨i=2:=by omega
 have h5:k=0∨k=1∨k=2∨k=3∨k=4:=by omega
 rcases h3 with rfl | rfl | rfl <;> exact h1 _ _ rfl k _ (by rcases h5 with rfl | rfl | rfl | rfl | rfl <;> rfl)
theorem co_of {W:World} {r:List (String × DataW Unit)} (h:laidMet Tryz.prog (("pub-carronade/pub/opus/inner/resample/silk.resampler34Coefs", Rows.laid_pub_carronade_pub_opus_inner_resample_silk_resampler34Coefs)::("pub-carronade/pub/opus/inner/resample/silk.resampler23Coefs", Rows.laid_pub_carronade_pub_opus_inner_resample_silk_resampler23Coefs)::("pub-carronade/pub/opus/inner/resample/silk.resampler12Coefs", Rows.laid_pub_carronade_pub_opus_inner_resample_silk_resampler12Coefs)::r) W):coTab W:=by
 have h1:=laid_ints (g:=1) (k := .i16) (ls:=coK 34) h (by kernel_rfl) (by kernel_rfl) (by kernel_rfl) Tryz.underlying74 Tryz.underlying29 cells16
 have h2:=laid_ints (g:=2) (k := .i16) (ls:=coK 23) h.tail (by kernel_rfl) (by kernel_rfl) (by kernel_rfl) Tryz.underlying75 Tryz.underlying29 cells16
 have h3:=laid_ints (g:=3) (k := .i16) (ls:=coK 12) h.tail.tail (by kernel_rfl) (by kernel_rfl) (by kernel_rfl) Tryz.underlying76 Tryz.underlying29 cells16
 refine ⟨fun j x hx => ?_,fun j x hx => ?_,fun j x hx => ?_⟩
 ·rw [addG,Nat.zero_add,Nat.zero_add]; exact h1 j x hx
 ·rw [addG,Nat.zero_add,Nat.zero_add]; exact h2 j x hx
 rw [addG,Nat.zero_add,Nat.zero_add]; exact h3 j x hx
theorem up_of {W:World} {r:List (String × DataW Unit)} (h:laidMet Tryz.prog (("pub-carronade/pub/opus/inner/resample/silk.resamplerUp2HQ0", Rows.laid_pub_carronade_pub_opus_inner_resample_silk_resamplerUp2HQ0)::("pub-carronade/pub/opus/inner/resample/silk.resamplerUp2HQ1", Rows.laid_pub_carronade_pub_opus_inner_resample_silk_resamplerUp2HQ1)::r) W):upTab W:=by
 have h1:=laid_ints (g:=12) (k := .i16) (ls:=[1746,14986,-26453]) h (by kernel_rfl) (by kernel_rfl) (by kernel_rfl) Tryz.underlying119 Tryz.underlying29 cells16
 have h2:=laid_ints (g:=13) (k := .i16) (ls:=[6854,25769,-9994]) h.tail (by kernel_rfl) (by kernel_rfl) (by kernel_rfl) Tryz.underlying119 Tryz.underlying29 cells16
 exact ⟨⟨h1 0 _ rfl,h1 1 _ rfl,h1 2 _ rfl⟩,h2 0 _ rfl,h2 1 _ rfl,h2 2 _ rfl⟩
theorem f12L_get:∀ t:Nat,t<12 → ∃ ls,f12L[t]? = some ls ∧ ∀ i:Nat,i<4→ls[i]? = some (f12 t i):=by
 intro t ht
 have h:∀ t:Nat,t<12→(f12L.getD t []).length=4∧t<f12L.length:=by decide
 obtain ⟨h1,h2⟩:=h t ht
 refine ⟨f12L.getD t [],by rw [List.getD_eq_getElem?_getD,List.getElem?_eq_getElem h2]; rfl,fun i hi => ?_⟩
 unfold f12
 rw [List.getD_eq_getElem?_getD (l:=f12L.getD t []),List.getElem?_eq_getElem (by omega)]
 rfl
theorem tab12_of {W:World} {r:List (String × DataW Unit)} (h:laidMet Tryz.prog (("pub-carronade/pub/opus/inner/resample/silk.resamplerFracFIR12", Rows.laid_pub_carronade_pub_opus_inner_resample_silk_resamplerFracFIR12)::r) W):tab12 W:=by
 have h1:=laid_ints2 (g:=15) (k := .i16) (c:=4) (lss:=f12L) h (by kernel_rfl) (by kernel_rfl) (by kernel_rfl) Tryz.underlying140 Tryz.underlying139 Tryz.underlying29 cells16 (by kernel_rfl)
 intro t ht i hi
 rw [addG,addG,addG,Nat.mul_one,Nat.add_zero,Nat.zero_add]
 obtain ⟨ls,e1,e2⟩:=f12L_get t ht
 exact h1 t ls e1 i _ (e2 i hi)
def laidR:List (String × DataW Unit):=[("math/bits.deBruijn32tab", Rows.laid_math_bits_deBruijn32tab),("math/bits.deBruijn64tab", Rows.laid_math_bits_deBruijn64tab),("internal/strconv.uint64pow10", Rows.laid_internal_strconv_uint64pow10),("pub-carronade/pub/opus/inner/resample/silk.errInvalidInputSampleRate", Rows.laid_pub_carronade_pub_opus_inner_resample_silk_errInvalidInputSampleRate),("pub-carronade/pub/opus/inner/resample/silk.errInvalidOutputSampleRate", Rows.laid_pub_carronade_pub_opus_inner_resample_silk_errInvalidOutputSampleRate),("pub-carronade/pub/opus/inner/resample/silk.errInvalidInputLength", Rows.laid_pub_carronade_pub_opus_inner_resample_silk_errInvalidInputLength),("pub-carronade/pub/opus/inner/resample/silk.errNonIntegralInputLength", Rows.laid_pub_carronade_pub_opus_inner_resample_silk_errNonIntegralInputLength),("pub-carronade/pub/opus/inner/resample/silk.errOutBufferTooSmall", Rows.laid_pub_carronade_pub_opus_inner_resample_silk_errOutBufferTooSmall),("pub-carronade/pub/opus/inner/resample/silk.delayMatrixDec", Rows.laid_pub_carronade_pub_opus_inner_resample_silk_delayMatrixDec),("pub-carronade/pub/opus/inner/resample/silk.resamplerUp2HQ0", Rows.laid_pub_carronade_pub_opus_inner_resample_silk_resamplerUp2HQ0),("pub-carronade/pub/opus/inner/resample/silk.resamplerUp2HQ1", Rows.laid_pub_carronade_pub_opus_inner_resample_silk_resamplerUp2HQ1),("pub-carronade/pub/opus/inner/resample/silk.resampler34Coefs", Rows.laid_pub_carronade_pub_opus_inner_resample_silk_resampler34Coefs),("pub-carronade/pub/opus/inner/resample/silk.resampler23Coefs", Rows.laid_pub_carronade_pub_opus_inner_resample_silk_resampler23Coefs),("pub-carronade/pub/opus/inner/resample/silk.resampler12Coefs", Rows.laid_pub_carronade_pub_opus_inner_resample_silk_resampler12Coefs),("pub-carronade/pub/opus/inner/resample/silk.resampler13Coefs", Rows.laid_pub_carronade_pub_opus_inner_resample_silk_resampler13Coefs),("pub-carronade/pub/opus/inner/resample/silk.resampler14Coefs", Rows.laid_pub_carronade_pub_opus_inner_resample_silk_resampler14Coefs),("pub-carronade/pub/opus/inner/resample/silk.resampler16Coefs", Rows.laid_pub_carronade_pub_opus_inner_resample_silk_resampler16Coefs),("pub-carronade/pub/opus/inner/resample/silk.resamplerFracFIR12", Rows.laid_pub_carronade_pub_opus_inner_resample_silk_resamplerFracFIR12)]
theorem metR {W:World} (h:laidMetH Tryz.prog laidR W):pows W∧dlyTab W∧upTab W∧coTab W∧tab12 W:=by
 rw [MakeChecks.laidMetH_plain _ _ _ (by kernel_rfl)] at h
 have h2:=h.tail.tail
 have h8:=h2.tail.tail.tail.tail.tail.tail
 have h9:=h8.tail
 have h11:=h9.tail.tail
 have h17:=h11.tail.tail.tail.tail.tail.tail
 exact ⟨pows_of h2,dly_of h8,up_of h9,co_of h11,tab12_of h17⟩
theorem doorR (os:Os) (args:Array Value):laidMetH Tryz.prog laidR ((World.doorLaid Tryz.prog 400 os).forCall (fun _ _=>0) ⟨#[],args,[]⟩).memory :=
 laidMetH_of_parts3 (fuel:=8) (laidMet_of_run' 8 (by kernel_rfl) (by kernel_rfl)) (by kernel_rfl) (by kernel_rfl)
end Go.Proofs.YtbpogapddpacoaaGreatDoor
end
section
namespace Go.Proofs.YtbpogapddpacoaaGreatDoor
open Go Go.Vc Go.Deep
open Go.ChangeShapes Go.WideShapes Go.RowKit
section
variable {H:Type} {enc:TypeId × Value→H} {w:World} {base:Nat} {spare:Nat→Bool} {held:Bool}
theorem wf_i16' {n:Int} (h:(Lit.int .i16 n).wf=true):S16 n:=by
 simp only [Lit.wf,Bool.and_eq_true,decide_eq_true_eq] at h
 have h1:-32768≤n:=h.1
 have h2:n≤32767:=h.2
 exact ⟨h1,h2⟩
theorem opened_smp {n:Nat} {cs:List Value} {x:DataW H × List MemPlace} (h:DataW.trod enc Tryz.prog w base spare held n 32 cs=some x) :
 ∃ v ys,cs=[v]∧smpAt w v ys:=by
 rcases Go.ChangeShapes.open_ints Tryz.underlying32 Tryz.underlying29 cells16 h with ⟨hcs,_⟩ | ⟨a,len,cap,zs,hcs,_,hlc,hm,hz,_,hcell,hwz⟩
 ·exact ⟨_,[],hcs,Or.inl ⟨rfl,rfl⟩⟩
 have hln:len≤zs.length:=by rw [hz]; split <;> omega
 have hml:maxLen≤9223372036854775807:=by decide
 have htl:(zs.take len).length=len:=by rw [List.length_take]; omega
 refine ⟨_,zs.take len,hcs,Or.inr ⟨a,cap,by rw [htl],by omega,by omega,fun i s hi => ?_⟩⟩
 have hil:i<len:=by
  have:=(List.getElem?_eq_some_iff.1 hi).1
  omega
 rw [List.getElem?_take,if_pos hil] at hi
 refine ⟨wf_i16' (hwz _ (List.mem_of_getElem? hi)),?_⟩
 rw [Nat.mul_one,hcell i (by omega),List.getD_eq_getElem?_getD,hi]
 rfl
theorem opened_smps {n:Nat} {cs:List Value} {x:DataW H × List MemPlace} (h:DataW.trod enc Tryz.prog w base spare held n 22 cs=some x) :
 ∃ v ys,cs=[v]∧smpsAt w v ys:=by
 rcases open_slice Tryz.underlying22 h with ⟨rfl,_⟩ | ⟨a,len,cap,m,k,D,Pl,rfl,_,hl,hm,hmm,_,hel⟩
 ·exact ⟨_,[],rfl,Or.inl ⟨rfl,rfl⟩⟩
 have hcl:Tryz.prog.cellsOf 32=1:=by kernel_rfl
 have hml:maxLen≤9223372036854775807:=by decide
 have hle:len≤m:=by rw [hmm]; split <;> omega
 have hget:∀ i,i<len → ∃ x:Value × List Int,w.cell? (a.add (i*1))=some x.1∧smpAt w x.1 x.2:=by
  intro i hi
  obtain ⟨cs',hc,ht⟩:=hel i (by omega)
  obtain ⟨v,ys,rfl,hys⟩:=opened_smp ht
  rw [hcl] at hc
  obtain ⟨_,_,hcc⟩:=World.cells?_some hc
  refine ⟨(v,ys),?_,hys⟩
  have:=hcc 0 (by simp)
  rw [show (a.add (i*1)).add 0=a.add (i*1) by rw [add_add]; rfl] at this
  exact this
 have:Inhabited (Value × List Int):=⟨(.slice none 0 0,[])⟩
 obtain ⟨f,hf⟩:=choose_lt hget
 refine ⟨_,(List.range len).map f,rfl,Or.inr ⟨a,cap,?_,?_,?_,?_⟩⟩
 ·rw [List.length_map,List.length_range]
 ·rw [List.length_map,List.length_range]
  exact hl
 ·omega
 intro i x hx
 rw [List.getElem?_map] at hx
 rcases Nat.lt_or_ge i len with hi | hi
 ·rw [List.getElem?_range hi] at hx
  simp only [Option.map_some,Option.some.injEq] at hx
  subst hx
  exact hf i hi
 rw [List.getElem?_eq_none (by simpa using hi)] at hx
 cases hx
end
end Go.Proofs.YtbpogapddpacoaaGreatDoor
end
