/- Joined: VmB, VmC, OgM. -/
import Derived.Test.YtbpogapddpacoaaGreatDoorKrA
section
section
namespace Go.Vc
open Go.RowKit (Below)
section
variable {P:Program} {w0:World} {cx:Cx} {ρ:Ren} {s:S} {K:AV→S→Prop} {a:Act} {o:Oper} {w:World}
theorem cell_heap {w':World} (h:w'.heap=w.heap) (p:Addr):w'.cell? p=w.cell? p:=by simp [World.cell?,h]
theorem cells_run {g off:Nat} {arr:Array Value} {T:TypeId} {fz:Nat × Nat} {cs:List CV} {n:Nat} (hg:w.heap[g]? = some (.cells arr T fz)) (hA:All2 (CV.R ρ) cs arr.toList) (hle:off+n≤cs.length) :
 ∃ vs,All2 (CV.R ρ) ((cs.drop off).take n) vs∧vs.length=n ∧ ∀ w':World,w'.heap=w.heap → ∀ j u,vs[j]? = some u→w'.cell? ((⟨g,off,none⟩:Addr).add j)=some u:=by
 have hA2:=(hA.drop_ off).take_ n
 refine ⟨_,hA2,?_,fun w' hw j u hu => ?_⟩
 ·rw [← hA2.length,List.length_take,List.length_drop]; omega
 rw [cell_heap hw,addr_add,cell_at hg]
 rw [List.getElem?_take] at hu
 split at hu
 ·rw [List.getElem?_drop] at hu
  simpa using hu
 cases hu
theorem src_sound (hC:RH w0 ρ s.H w) {α:Type} {e:Enc α} {bs:List Nat} {wd:Nat} (hlen:∀ x,(e.f bs x).length=wd) {y:CV} {ys:List α} {v:Value} (hR:y.R ρ v) (h:src w0 s.H e bs wd y ys) :
 ∃ news,All2 (CV.R ρ) (flat e bs ys) news∧(∀ w',(Builtin.lenOf v).run P w' = .ok ys.length w')∧(∀ w',w'.heap=w.heap→(Builtin.firstCells wd ys.length v).run P w' = .ok news.toArray w'):=by
 have hfl:=flat_length hlen ys
 unfold src at h
 split at h
 ·obtain ⟨rfl,_⟩:=hR
  subst h
  exact ⟨[],.nil,fun w'=>rfl,fun w' _=>rfl⟩
 ·rename_i ad n c
  obtain ⟨rfl,_⟩:=hR
  obtain ⟨hn,h⟩:=h
  have hx:∀ (l:List CV) (k:Nat),(∀ i x,l[i]? = some x → ∃ v,x=CV.val v∧v.oneCell'=true∧w0.cell? (ad.add (k+i))=some v) →
   ∃ news,All2 (CV.R ρ) l news ∧ ∀ j u,news[j]? = some u→w0.cell? (ad.add (k+j))=some u:=by
   intro l
   induction l with
   | nil=>intro k _; exact ⟨[],.nil,by simp⟩
   | cons x r ih =>
    intro k hk
    obtain ⟨v,rfl,h1,h2⟩:=hk 0 x rfl
    obtain ⟨news,hA,hc⟩:=ih (k+1) fun i x hi=>by
     obtain ⟨v,e1,e2,e3⟩:=hk (i+1) x (by simpa using hi)
     exact ⟨v,e1,e2,by rw [show k+1+i=k+(i+1) from by omega]; exact e3⟩
    refine ⟨v::news,.cons ⟨rfl,h1⟩ hA,fun j u hu => ?_⟩
    cases j with
    | zero=>simp at hu; subst hu; exact h2
    | succ j=>rw [show k+(j+1)=k+1+j from by omega]; exact hc j u (by simpa using hu)
  obtain ⟨news,hA,hc⟩:=hx (flat e bs ys) 0 (by simpa using h)
  refine ⟨news,hA,fun w'=>by simp [Builtin.lenOf,hn],fun w' hw=>run_firstCells_some w' _ _ _ _ _ _ (by rw [← hA.length,hfl]) fun j u hu => ?_⟩
  have h0:=hc j u hu
  rw [Nat.zero_add] at h0
  rw [cell_heap hw,hC.base.cell (World.block_lt_of_cell? w0 _ h0)]
  exact h0
 ·rename_i b
  obtain ⟨rfl,_⟩:=hR
  obtain ⟨hn,hw1,h⟩:=h
  refine ⟨b.data.toList.map fun x => .int .u8 x.toNat,?_,fun w'=>by simp [Builtin.lenOf,hn],fun w' _ => ?_⟩
  ·rw [h]
   generalize b.data.toList=l
   induction l with
   | nil=>exact .nil
   | cons x r ih=>exact .cons ⟨rfl,rfl⟩ ih
  have hb:(b.extract 0 b.size)=b:=ByteArray.extract_zero_size
  simp only [Builtin.firstCells,hn,hb,Sem.run_pure]
  congr 1
  apply Array.toList_inj.1
  simp
 ·rename_i b n
  split at h
  ·rename_i β wr T e' bs' wd' zs hb
   obtain ⟨rfl,hnz,hn,h⟩:=h
   obtain ⟨e1,hρ,h0,hlen',h2⟩:=hC.get hb
   obtain ⟨e1',he1,hR⟩:=hR
   rw [hρ] at he1
   cases he1
   rcases h2 with ⟨h2,hz,_⟩ | ⟨g',arr,fz,h2,h3,h4,h5,hc,⟨sp,h6,h7⟩,h8⟩
   ·have hn0:n=0:=by subst hz; simpa using hnz
    subst hn0
    have hy0:ys=[]:=List.eq_nil_of_length_eq_zero hn
    subst hy0
    rcases hR with ⟨g,hg,_,_⟩ | ⟨_,_,rfl⟩
    ·rw [h2] at hg; cases hg
    exact ⟨[],.nil,fun w'=>rfl,fun w' _=>rfl⟩
   rcases hR with ⟨g,hg,rfl,_⟩ | ⟨hg,_⟩
   ·rw [h2] at hg
    cases hg
    have hle:0+n*wd'≤(flat e' bs' zs++sp).length:=by
     rw [List.length_append,flat_length hlen']
     have:=Nat.mul_le_mul_right wd' hnz
     omega
    obtain ⟨vs,hA,hl,hc'⟩:=cells_run (off:=0) h3 h6 hle
    have hseg:((flat e' bs' zs++sp).drop 0).take (n*wd')=flat e bs ys:=by
     rw [List.drop_zero,List.take_append_of_le_length (by rw [flat_length hlen']; exact Nat.mul_le_mul_right _ hnz),flat_take hlen' n zs hnz,h]
    rw [hseg] at hA
    exact ⟨vs,hA,fun w'=>by simp [Builtin.lenOf,hn],fun w' hw=>run_firstCells_some w' _ _ _ _ _ _ (by rw [hl,hn]) (hc' w' hw)⟩
   rw [h2] at hg; cases hg
  exact h.elim
 ·rename_i b wd1 o' n c
  obtain ⟨g,hg,rfl,hncap⟩:=hR
  split at h
  ·rename_i T cs hb
   obtain ⟨rfl,hn,h⟩:=h
   obtain ⟨h1,h⟩:=dropF_spec h
   obtain ⟨h2,h⟩:=takeF_spec h
   obtain ⟨e1,hρ,g',arr,k1,k2,k3⟩:=hC.get hb
   rw [at_of_get hρ,k1] at hg
   cases hg
   obtain ⟨vs,hA,hl,hc'⟩:=cells_run (off:=o'*wd1) (n:=n*wd1) k2 k3 (by simp at h2; omega)
   rw [← h] at hA
   exact ⟨vs,hA,fun w'=>by simp [Builtin.lenOf,hn],fun w' hw=>run_firstCells_some w' _ _ _ _ _ _ (by rw [hl,hn]) (hc' w' hw)⟩
  ·rename_i β wr T e' bs' wd' zs hb
   obtain ⟨rfl,rfl,hnz,hn,h⟩:=h
   obtain ⟨e1,hρ,h0,hlen',h2⟩:=hC.get hb
   rcases h2 with ⟨h2,hz,_⟩ | ⟨g',arr,fz,h2,h3,h4,h5,hc,⟨sp,h6,h7⟩,h8⟩
   ·rw [at_of_get hρ,h2] at hg; cases hg
   rw [at_of_get hρ,h2] at hg
   cases hg
   have hm:=Nat.mul_le_mul_right wd' hnz
   rw [Nat.add_mul] at hm
   have hle:o'*wd'+n*wd'≤(flat e' bs' zs++sp).length:=by
    rw [List.length_append,flat_length hlen']
    omega
   obtain ⟨vs,hA,hl,hc'⟩:=cells_run (off:=o'*wd') h3 h6 hle
   have hseg:((flat e' bs' zs++sp).drop (o'*wd')).take (n*wd')=flat e bs ys:=by
    have e2:(flat e' bs' (zs.drop o')).length=(zs.length - o')*wd':=by rw [flat_length hlen',List.length_drop]
    have e3:n≤(zs.drop o').length:=by rw [List.length_drop]; omega
    rw [List.drop_append_of_le_length (by rw [flat_length hlen']; omega),flat_drop hlen' o' zs (by omega),List.take_append_of_le_length (by rw [flat_length hlen']; exact Nat.mul_le_mul_right _ e3),flat_take hlen' n _ e3,h]
   rw [hseg] at hA
   exact ⟨vs,hA,fun w'=>by simp [Builtin.lenOf,hn],fun w' hw=>run_firstCells_some w' _ _ _ _ _ _ (by rw [hl,hn]) (hc' w' hw)⟩
  exact h.elim
 ·rename_i b j n
  split at h
  ·rename_i β T e' wd' xss hb
   obtain ⟨rfl,zs,hzs,hnz,hn,h⟩:=h
   obtain ⟨e1,hρ,h0,hlen',h1,ms,h2,h3,h4,h5⟩:=hC.get hb
   obtain ⟨e1',ms',m,he1,hms,hj,hR⟩:=hR
   rw [hρ] at he1
   cases he1
   have:=encM_inj (hms.trans h2.symm)
   subst this
   rcases h5 j m zs hj hzs with ⟨k2,hz,_⟩ | ⟨g',arr,fz,k2,k3,k4,k5,hc,sp,h6,h7⟩
   ·have hn0:n=0:=by subst hz; simpa using hnz
    subst hn0
    have hy0:ys=[]:=List.eq_nil_of_length_eq_zero hn
    subst hy0
    rcases hR with ⟨g,hg,_,_⟩ | ⟨_,_,rfl⟩
    ·rw [k2] at hg; cases hg
    exact ⟨[],.nil,fun w'=>rfl,fun w' _=>rfl⟩
   rcases hR with ⟨g,hg,rfl,_⟩ | ⟨hg,_⟩
   ·rw [k2] at hg
    cases hg
    have hle:0+n*wd'≤(flat e' [] zs++sp).length:=by
     rw [List.length_append,flat_length hlen']
     have:=Nat.mul_le_mul_right wd' hnz
     omega
    obtain ⟨vs,hA,hl,hc'⟩:=cells_run (off:=0) k3 h6 hle
    have hseg:((flat e' [] zs++sp).drop 0).take (n*wd')=flat e bs ys:=by
     rw [List.drop_zero,List.take_append_of_le_length (by rw [flat_length hlen']; exact Nat.mul_le_mul_right _ hnz),flat_take hlen' n zs hnz,h]
    rw [hseg] at hA
    exact ⟨vs,hA,fun w'=>by simp [Builtin.lenOf,hn],fun w' hw=>run_firstCells_some w' _ _ _ _ _ _ (by rw [hl,hn]) (hc' w' hw)⟩
   rw [k2] at hg; cases hg
  exact h.elim
 exact h.elim
theorem run_append_gen {t u ty e:TypeId} {du:TypeDesc} {i:TypeInfo} {z:Value} (ht:P.underlying t=some (.slice e)) (hu:P.underlying u=some du) (hdu:srcT du=true) (hi:P.info? e=some i) (hz:i.zero=some z) (hzs:z.cells.size=i.size)
 {v x:Value} {n m:Nat} {xs news:List Value} (hown:w.ownsRow 0 e i.size v n xs) (hL:∀ w',(Builtin.lenOf x).run P w' = .ok m w') (hF:∀ w',w'.heap=w.heap→(Builtin.firstCells i.size m x).run P w' = .ok news.toArray w')
 (hl:news.length=m*i.size) (h1:∀ u∈news,u.oneCell'=true) (h63:n+m≤maxLen) (hbytes:(n+m)*i.bytes≤140737488355328)
 (hz1:∀ u∈z.cells.toList,u.oneCell'=true) (hx1:∀ u∈xs,u.oneCell'=true) (hold:∀ g cur,v.ownBlock=some g→w.heap[g]? = some (.cells cur e (0,0)) → ∀ u∈cur.toList,u.oneCell'=true) :
 ∃ v' w',(Builtin.append_ #[t,u] ty #[v,x]).run P w = .ok v' w'∧w'.ownsRow 0 e i.size v' (n+m) (xs++news)∧w.grownBy w' v.ownBlock∧(v'.ownBlock=v.ownBlock∨v'.ownBlock=some w.heap.size) ∧
  ∀ g cur fz,v'.ownBlock=some g→w'.heap[g]? = some (.cells cur e fz) → ∀ u∈cur.toList,u.oneCell'=true:=by
 have hsmall:n+m≤9223372036854775807:=by simp only [maxLen] at h63; omega
 have hlen:(xs++news).length=(n+m)*i.size:=by rw [List.length_append,hown.1,hl,Nat.add_mul]
 have hd2:(∃ e2,du = .slice e2)∨du = .string:=by cases du <;> first | exact .inl ⟨_,rfl⟩ | exact .inr rfl | cases hdu
 have grown:∀ (old:Nat),old<n+m → ∀ (row:Option Nat),
  (w.drew.alloc (.cells (xs.toArray++news.toArray++Builtin.zeroCells z.cells (grownCap w (n+m) old e - (n+m))) e)).ownsRow 0 e i.size
   (.slice (some ⟨w.heap.size,0,none⟩) (n+m) (grownCap w (n+m) old e)) (n+m) (xs++news) ∧
  w.grownBy (w.drew.alloc (.cells (xs.toArray++news.toArray++Builtin.zeroCells z.cells (grownCap w (n+m) old e - (n+m))) e)) row:=by
  intro old ho row
  have hge:=grownCap_ge w (n+m) old e
  have hcm:grownCap w (n+m) old e≤maxLen:=grownCap_le_maxLen w (n+m) old e h63
  refine ⟨⟨hlen,.inr ⟨w.heap.size,_,_,rfl,Nat.zero_le _,heap_alloc_new w.drew _,hge,hcm,?_,?_⟩⟩,⟨rfl,rfl,rfl,by simp,fun k hk _=>heap_alloc_old w.drew _ hk⟩⟩
  ·simp only [Array.size_append,List.size_toArray,size_zeroCells,hzs,hown.1,hl,← Nat.add_mul]
   congr 1
   omega
  simp only [Array.toList_append,List.append_assoc]
  rw [← List.append_assoc,← hlen]
  exact List.take_left
 have hzc:∀ k,∀ u∈(Builtin.zeroCells z.cells k).toList,u.oneCell'=true:=by
  intro k u hu
  simp only [Builtin.zeroCells,Array.toList_map,List.mem_map,Array.toList_range,List.mem_range] at hu
  obtain ⟨j,hj,rfl⟩:=hu
  have hz0:0<z.cells.size:=by
   rcases Nat.eq_zero_or_pos z.cells.size with h0 | h0
   ·rw [h0] at hj; omega
   exact h0
  have hm:=Nat.mod_lt j hz0
  rw [getElem!_pos z.cells _ hm]
  exact hz1 _ (by simp)
 have hgone:∀ old g cur fz,Value.ownBlock (.slice (some ⟨w.heap.size,0,none⟩) (n+m) (grownCap w (n+m) old e))=some g →
  (w.drew.alloc (.cells (xs.toArray++news.toArray++Builtin.zeroCells z.cells (grownCap w (n+m) old e - (n+m))) e)).heap[g]? = some (.cells cur e fz) → ∀ u∈cur.toList,u.oneCell'=true:=by
  intro old g cur fz hg hh u hu
  simp only [Value.ownBlock,Option.some.injEq] at hg
  subst hg
  have hh':=heap_alloc_new w.drew (.cells (xs.toArray++news.toArray++Builtin.zeroCells z.cells (grownCap w (n+m) old e - (n+m))) e)
  have hsz':w.drew.heap.size=w.heap.size:=rfl
  rw [hsz'] at hh'
  rw [hh'] at hh
  simp only [Option.some.injEq,Obj.cells.injEq] at hh
  obtain ⟨rfl,_,_⟩:=hh
  simp only [Array.toList_append,List.mem_append] at hu
  rcases hu with (hu | hu) | hu
  ·exact hx1 u hu
  ·exact h1 u hu
  exact hzc _ u hu
 -- what the growing arm comes to
 have grow:∀ (base:Option Addr) (cap:Nat),v = .slice base n cap→cap<n+m→(∀ w',w'.heap=w.heap→(Builtin.firstCells i.size n v).run P w' = .ok xs.toArray w') →
  (Builtin.append_ #[t,u] ty #[v,x]).run P w = .ok (.slice (some ⟨w.heap.size,0,none⟩) (n+m) (grownCap w (n+m) cap e)) (w.drew.alloc (.cells (xs.toArray++news.toArray++Builtin.zeroCells z.cells (grownCap w (n+m) cap e - (n+m))) e)):=by
  intro base cap hv hcap hfo
  have hn:¬ (n+m≤cap):=by omega
  have h63':¬ (9223372036854775807<((n:Int)+(m:Int))):=by omega
  have hfit:=growslice_fits hcap hbytes
  have h48':¬ (281474976710656<Builtin.nextslicecap (n+m) cap*i.bytes):=by omega
  have hF':=hF w.drew rfl
  have hfo':=hfo w.drew rfl
  subst hv
  rcases hd2 with ⟨e2,rfl⟩ | rfl
  ·simp [Builtin.append_,run_underlying ht,run_underlying hu,sizeOf,typeInfo,zeroValue,hi,hz,hL,hn,h63',h48',Question.forced,hF',hfo',newRow,grownCap]
   try (congr 2; apply Array.ext'; simp [List.append_assoc])
  simp [Builtin.append_,run_underlying ht,run_underlying hu,sizeOf,typeInfo,zeroValue,hi,hz,hL,hn,h63',h48',Question.forced,hF',hfo',newRow,grownCap]
  try (congr 2; apply Array.ext'; simp [List.append_assoc])
 rcases hown.2 with ⟨rfl,rfl⟩ | ⟨g,cap,cur,rfl,hbg,hg,hnc,hcm,hcs,htake⟩
 ·have hx:xs=[]:=List.eq_nil_of_length_eq_zero (by simpa using hown.1)
  subst hx
  by_cases hm:m=0
  ·subst hm
   have hn:news=[]:=List.eq_nil_of_length_eq_zero (by simpa using hl)
   subst hn
   have hF':=hF w rfl
   refine ⟨.slice none 0 0,w,?_,World.ownsRow_nil w 0 e i.size,⟨rfl,rfl,rfl,Nat.le_refl _,fun _ _ _=>rfl⟩,Or.inl rfl,fun g cur fz hg=>by simp [Value.ownBlock] at hg⟩
   rcases hd2 with ⟨e2,rfl⟩ | rfl <;> simp [Builtin.append_,run_underlying ht,run_underlying hu,sizeOf,typeInfo,hi,hL,hF']
  have hr:=grow none 0 rfl (by omega) (fun w' _=>by simp [Builtin.firstCells])
  have hgr:=grown 0 (by omega) (Value.ownBlock (.slice none 0 0))
  exact ⟨_,_,hr,hgr.1,hgr.2,Or.inr rfl,hgone 0⟩
 by_cases hroom:n+m≤cap
 ·have hfit:n*i.size+news.length≤cur.size:=by rw [hl,hcs,← Nat.add_mul]; exact Nat.mul_le_mul_right _ hroom
  have hst:=run_storeCells_at P g (n*i.size) e news 0 cur w hg (by simpa using hfit) h1
  simp only [Nat.add_zero] at hst
  have hF':=hF w rfl
  refine ⟨.slice (some ⟨g,0,none⟩) (n+m) cap,w.setRow g (cur.toList.take (n*i.size)++news++cur.toList.drop (n*i.size+news.length)).toArray,?_,⟨hlen,.inr ⟨g,cap,_,rfl,hbg,setRow_heap w g cur _ e _ hg,hroom,hcm,?_,?_⟩⟩,⟨rfl,rfl,rfl,by simp,fun k _ hk=>setRow_other w g k _ (fun e=>hk (by simp [Value.ownBlock,e]))⟩,Or.inl rfl,?_⟩
  ·rcases hd2 with ⟨e2,rfl⟩ | rfl <;> simp [Builtin.append_,run_underlying ht,run_underlying hu,sizeOf,typeInfo,hi,hL,hroom,hF',Addr.add_lit,hst]
  ·simp only [List.size_toArray,List.length_append,List.length_take,List.length_drop,Array.length_toList]
   omega
  ·rw [htake,← hlen]
   exact List.take_left
  intro g' cur' fz hg' hh u hu
  simp only [Value.ownBlock,Option.some.injEq] at hg'
  subst hg'
  rw [setRow_heap w g cur _ e _ hg] at hh
  simp only [Option.some.injEq,Obj.cells.injEq] at hh
  obtain ⟨rfl,_,_⟩:=hh
  have ho:=hold g cur rfl hg
  simp only [List.mem_append] at hu
  rcases hu with (hu | hu) | hu
  ·exact ho u (List.mem_of_mem_take hu)
  ·exact h1 u hu
  exact ho u (List.mem_of_mem_drop hu)
 have holds:∀ j u,xs[j]? = some u→w.cell? ((⟨g,0,none⟩:Addr).add j)=some u:=hown.cells (g:=g) rfl
 have hr:=grow (some ⟨g,0,none⟩) cap rfl (by omega) (fun w' hw=>run_firstCells_some w' _ _ _ _ _ _ hown.1 fun j u hu=>by rw [cell_heap hw]; exact holds j u hu)
 have hgr:=grown cap (by omega) (Value.ownBlock (.slice (some ⟨g,0,none⟩) n cap))
 exact ⟨_,_,hr,hgr.1,hgr.2,Or.inr rfl,hgone cap⟩
theorem run_append_off {t u ty e:TypeId} {du:TypeDesc} {i:TypeInfo} {z:Value} (ht:P.underlying t=some (.slice e)) (hu:P.underlying u=some du) (hdu:srcT du=true) (hi:P.info? e=some i) (hz:i.zero=some z) (hzs:z.cells.size=i.size)
 {x:Value} {g p o n m c:Nat} {cur:Array Value} {xs news:List Value} (hg:w.heap[g]? = some (.cells cur e (0,0))) (hcs:cur.size=(o+c)*i.size) (hnc:n≤c) (hp:0<c→p=o*i.size)
 (hxs:(cur.toList.drop (o*i.size)).take (n*i.size)=xs) (ho:∀ u∈cur.toList,u.oneCell'=true)
 (hL:∀ w',(Builtin.lenOf x).run P w' = .ok m w') (hF:∀ w',w'.heap=w.heap→(Builtin.firstCells i.size m x).run P w' = .ok news.toArray w')
 (hl:news.length=m*i.size) (h1:∀ u∈news,u.oneCell'=true) (h63:n+m≤maxLen) (hbytes:(n+m)*i.bytes≤140737488355328) (hz1:∀ u∈z.cells.toList,u.oneCell'=true) :
 (n+m≤c∧(Builtin.append_ #[t,u] ty #[.slice (some ⟨g,p,none⟩) n c,x]).run P w = .ok (.slice (some ⟨g,p,none⟩) (n+m) c) (w.setRow g (cur.toList.take ((o+n)*i.size)++news++cur.toList.drop ((o+n)*i.size+news.length)).toArray)) ∨
 ∃ v' w',(Builtin.append_ #[t,u] ty #[.slice (some ⟨g,p,none⟩) n c,x]).run P w = .ok v' w'∧w'.ownsRow 0 e i.size v' (n+m) (xs++news)∧w.grownBy w' none∧v'.ownBlock=some w.heap.size ∧
  ∀ g cur fz,v'.ownBlock=some g→w'.heap[g]? = some (.cells cur e fz) → ∀ u∈cur.toList,u.oneCell'=true:=by
 have hsmall:n+m≤9223372036854775807:=by simp only [maxLen] at h63; omega
 have hm1:n*i.size≤c*i.size:=Nat.mul_le_mul_right _ hnc
 have hcs':cur.size=o*i.size+c*i.size:=by rw [hcs,Nat.add_mul]
 have hxl:xs.length=n*i.size:=by rw [← hxs,List.length_take,List.length_drop,Array.length_toList]; omega
 have hx1:∀ u∈xs,u.oneCell'=true:=fun u hu=>ho u (List.mem_of_mem_drop (List.mem_of_mem_take (by rw [hxs]; exact hu)))
 have hlen:(xs++news).length=(n+m)*i.size:=by rw [List.length_append,hxl,hl,Nat.add_mul]
 have hd2:(∃ e2,du = .slice e2)∨du = .string:=by cases du <;> first | exact .inl ⟨_,rfl⟩ | exact .inr rfl | cases hdu
 by_cases hroom:n+m≤c
 ·refine .inl ⟨hroom,?_⟩
  have hF':=hF w rfl
  have hmm:(n+m)*i.size≤c*i.size:=Nat.mul_le_mul_right _ hroom
  rw [Nat.add_mul] at hmm
  have hst:(storeCells ⟨g,p+n*i.size,none⟩ news 0).run P w = .ok () (w.setRow g (cur.toList.take ((o+n)*i.size)++news++cur.toList.drop ((o+n)*i.size+news.length)).toArray):=by
   by_cases hc:c=0
   ·have hm:m=0:=by omega
    subst hm
    have hn:news=[]:=List.eq_nil_of_length_eq_zero (by simpa using hl)
    subst hn
    simp only [storeCells,List.append_nil,List.length_nil,Nat.add_zero,List.take_append_drop,Array.toArray_toList]
    rw [setRow_self w g cur e (0,0) hg]
    rfl
   rw [hp (by omega)]
   have h2:=run_storeCells_at P g (o*i.size+n*i.size) e news 0 cur w hg (by omega) h1
   rw [Nat.add_mul]
   simpa only [Nat.add_zero] using h2
  rcases hd2 with ⟨e2,rfl⟩ | rfl <;> simp [Builtin.append_,run_underlying ht,run_underlying hu,sizeOf,typeInfo,hi,hL,hroom,hF',Addr.add_lit,hst]
 refine .inr ?_
 have hcap:c<n+m:=by omega
 have hge:=grownCap_ge w (n+m) c e
 have hcm:=grownCap_le_maxLen w (n+m) c e h63
 have holds:∀ w':World,w'.heap=w.heap→(Builtin.firstCells i.size n (.slice (some ⟨g,p,none⟩) n c)).run P w' = .ok xs.toArray w':=by
  intro w' hw
  refine run_firstCells_some w' _ _ _ _ _ _ hxl fun j u hu => ?_
  have hj:j<n*i.size:=by rw [← hxl]; exact (List.getElem?_eq_some_iff.1 hu).1
  have hc0:0<c:=by
   rcases Nat.eq_zero_or_pos c with h | h
   ·have:n=0:=by omega
    subst this
    omega
   exact h
  rw [cell_heap hw,addr_add,cell_at hg,hp hc0]
  rw [← hxs,List.getElem?_take,if_pos hj,List.getElem?_drop] at hu
  simpa using hu
 have hn:¬ (n+m≤c):=hroom
 have h63':¬ (9223372036854775807<((n:Int)+(m:Int))):=by omega
 have hfit:=growslice_fits hcap hbytes
 have h48':¬ (281474976710656<Builtin.nextslicecap (n+m) c*i.bytes):=by omega
 have hF':=hF w.drew rfl
 have hfo':=holds w.drew rfl
 have hzc:∀ k,∀ u∈(Builtin.zeroCells z.cells k).toList,u.oneCell'=true:=by
  intro k u hu
  simp only [Builtin.zeroCells,Array.toList_map,List.mem_map,Array.toList_range,List.mem_range] at hu
  obtain ⟨j,hj,rfl⟩:=hu
  have hz0:0<z.cells.size:=by
   rcases Nat.eq_zero_or_pos z.cells.size with h0 | h0
   ·rw [h0] at hj; omega
   exact h0
  have hm:=Nat.mod_lt j hz0
  rw [getElem!_pos z.cells _ hm]
  exact hz1 _ (by simp)
 have hr:(Builtin.append_ #[t,u] ty #[.slice (some ⟨g,p,none⟩) n c,x]).run P w = .ok (.slice (some ⟨w.heap.size,0,none⟩) (n+m) (grownCap w (n+m) c e)) (w.drew.alloc (.cells (xs.toArray++news.toArray++Builtin.zeroCells z.cells (grownCap w (n+m) c e - (n+m))) e)):=by
  rcases hd2 with ⟨e2,rfl⟩ | rfl
  ·simp [Builtin.append_,run_underlying ht,run_underlying hu,sizeOf,typeInfo,zeroValue,hi,hz,hL,hn,h63',h48',Question.forced,hF',hfo',newRow,grownCap]
   try (congr 2; apply Array.ext'; simp [List.append_assoc])
  simp [Builtin.append_,run_underlying ht,run_underlying hu,sizeOf,typeInfo,zeroValue,hi,hz,hL,hn,h63',h48',Question.forced,hF',hfo',newRow,grownCap]
  try (congr 2; apply Array.ext'; simp [List.append_assoc])
 refine ⟨_,_,hr,⟨hlen,.inr ⟨w.heap.size,_,_,rfl,Nat.zero_le _,heap_alloc_new w.drew _,hge,hcm,?_,?_⟩⟩,⟨rfl,rfl,rfl,by simp,fun k hk _=>heap_alloc_old w.drew _ hk⟩,rfl,?_⟩
 ·simp only [Array.size_append,List.size_toArray,size_zeroCells,hzs,hxl,hl,← Nat.add_mul]
  congr 1
  omega
 ·simp only [Array.toList_append,List.append_assoc]
  rw [← List.append_assoc,← hlen]
  exact List.take_left
 intro g' cur' fz hg' hh u hu
 simp only [Value.ownBlock,Option.some.injEq] at hg'
 subst hg'
 have hh':=heap_alloc_new w.drew (.cells (xs.toArray++news.toArray++Builtin.zeroCells z.cells (grownCap w (n+m) c e - (n+m))) e)
 have hsz':w.drew.heap.size=w.heap.size:=rfl
 rw [hsz'] at hh'
 rw [hh'] at hh
 simp only [Option.some.injEq,Obj.cells.injEq] at hh
 obtain ⟨rfl,_,_⟩:=hh
 simp only [Array.toList_append,List.mem_append] at hu
 rcases hu with (hu | hu) | hu
 ·exact hx1 u hu
 ·exact h1 u hu
 exact hzc _ u hu
end
end Go.Vc
end
section
namespace Go.Vc
open Go.RowKit (Below)
section
variable {P:Program} {w0:World} {cx:Cx} {ρ:Ren} {s:S} {K:AV→S→Prop} {a:Act} {o:Oper} {w:World} {H:List Blk}
theorem Core.pushG (hC:Core w0 cx ρ H w) {k:Blk} {e':Option Nat × Nat} {w':World} (h1:w'.os=w.os) (h2:w'.tape=w.tape) (h3:w'.output=w.output) (h4:w.heap.size≤w'.heap.size) (h5:∀ i,i<w.heap.size→w'.heap[i]? = w.heap[i]?)
 (hk:k.ok (ρ ++ [e']) e' w') (he':∀ g,e'.1=some g→w.heap.size≤g∧g<w'.heap.size) (hone:k.one=true:=by rfl):Core w0 cx (ρ ++ [e']) (H++[k]) w':=by
 have hlen:=hC.rh.len
 have h1k:k.live=true → ∀ g,owns e' g→e'.1=some g:=fun hl g hg=>hk.own1 hl hone hg
 have hlast:∀ (b:Nat) (q:Blk),(H++[k])[b]? = some q→(b<H.length∧H[b]? = some q)∨(b=H.length∧q=k):=by
  intro b q hq
  rcases Nat.lt_or_ge b H.length with hb | hb
  ·rw [List.getElem?_append_left hb] at hq; exact .inl ⟨hb,hq⟩
  have hb2:b<(H++[k]).length:=(List.getElem?_eq_some_iff.1 hq).1
  have:b=H.length:=by simp at hb2; omega
  subst this
  simp at hq
  exact .inr ⟨rfl,hq.symm⟩
 have hatl:∀ b,b<H.length→Ren.own (ρ ++ [e']) b = ρ.own b:=fun b hb=>own_append (by omega)
 have hatn:Ren.own (ρ ++ [e']) H.length=owns e':=by
  rw [← hlen]
  exact own_last
 refine Core.next hC (by simp [hlen]) ⟨h1,h2,h3,h4,fun i hi _=>h5 i hi⟩ (fun b q e hq he => ?_) (fun b1 b2 q1 q2 g x1 x2 l1 l2 a1 a2 => ?_) (fun g hg => ?_)
 ·rcases hlast b q hq with ⟨hb,hq'⟩ | ⟨rfl,rfl⟩
  ·rw [List.getElem?_append_left (by omega)] at he
   have hok:=hC.rh.ok b q e hq' he
   exact (hok.keep fun g hg hl=>h5 g (hok.block hl hg)).more _
  rw [← hlen] at he
  simp at he
  subst he
  exact hk
 ·rcases hlast b1 q1 x1 with ⟨hb1,hq1⟩ | ⟨rfl,rfl⟩ <;> rcases hlast b2 q2 x2 with ⟨hb2,hq2⟩ | ⟨rfl,rfl⟩
  ·rw [hatl b1 hb1] at a1
   rw [hatl b2 hb2] at a2
   exact hC.rh.inj b1 b2 q1 q2 g hq1 hq2 l1 l2 a1 a2
  ·rw [hatl b1 hb1] at a1
   rw [hatn] at a2
   have:=(hC.rh.lo _ (image_get hq1 l1 a1)).2
   have:=(he' g (h1k l2 g a2)).1
   omega
  ·rw [hatl b2 hb2] at a2
   rw [hatn] at a1
   have:=(hC.rh.lo _ (image_get hq2 l2 a2)).2
   have:=(he' g (h1k l1 g a1)).1
   omega
  rfl
 rcases image_app hlen hg with h | h
 ·exact ⟨.inl h,by have:=(hC.rh.lo g h).2; omega⟩
 exact ⟨.inr (he' g (h1k h.2 g h.1)).1,(he' g (h1k h.2 g h.1)).2⟩
theorem vec_of_owned {α:Type} {e:Enc α} {bs:List Nat} {wd:Nat} {T:TypeId} {xs:List α} {v:Value} {n:Nat} {vs:List Value} {w':World} (hw:0<wd) (hlen:∀ x,(e.f bs x).length=wd)
 (hown:w'.ownsRow 0 T wd v n vs) (hn:xs.length=n) (hone:∀ g arr fz,v.ownBlock=some g→w'.heap[g]? = some (.cells arr T fz) → ∀ u∈arr.toList,u.oneCell'=true) :
 ∃ cap,(∀ ρ:Ren,All2 (CV.R ρ) (flat e bs xs) vs→(Blk.vec true T e bs wd xs).ok ρ (v.ownBlock,cap) w')∧(∀ (id:Nat) (ρ':Ren),ρ'[id]? = some (v.ownBlock,cap)→(CV.vec id n).R ρ' v)∧(∀ g,v.ownBlock=some g→g<w'.heap.size):=by
 rcases hown.2 with ⟨rfl,rfl⟩ | ⟨g,cap,cur,rfl,_,hg,hnc,hcm,hcs,htake⟩
 ·have hx:xs=[]:=List.eq_nil_of_length_eq_zero hn
  subst hx
  exact ⟨0,fun ρ _=>⟨hw,hlen,.inl ⟨rfl,rfl,rfl⟩⟩,fun id ρ' h=>⟨_,h,.inr ⟨rfl,rfl,rfl⟩⟩,fun g hg=>by simp [Value.ownBlock] at hg⟩
 refine ⟨cap,fun ρ hA=>⟨hw,hlen,.inr ⟨g,cur,(0,0),rfl,hg,hcs,(by omega),(by simpa [maxLen] using hcm),⟨List.replicate (cur.toList.drop (n*wd)).length .any,?_,fun x hx=>List.eq_of_mem_replicate hx⟩,fun _=>rfl⟩⟩,fun id ρ' h=>⟨_,h,.inl ⟨g,rfl,rfl,hnc⟩⟩,fun g' hg' => ?_⟩
 ·have hsp:cur.toList=vs++cur.toList.drop (n*wd):=by rw [← htake]; exact (List.take_append_drop _ _).symm
  have ho:=hone g cur (0,0) rfl hg
  rw [hsp] at ho ⊢
  have hdl:(vs++cur.toList.drop (n*wd)).drop (n*wd)=cur.toList.drop (n*wd):=by
   rw [List.drop_append_of_le_length (by rw [hown.1]; exact Nat.le_refl _),List.drop_eq_nil_of_le (by rw [hown.1]; exact Nat.le_refl _),List.nil_append]
  rw [hdl]
  refine hA.append ?_
  have ho2:∀ u∈cur.toList.drop (n*wd),u.oneCell'=true:=fun u hu=>ho u (List.mem_append_right _ hu)
  generalize cur.toList.drop (n*wd)=l at ho2
  induction l with
  | nil=>exact .nil
  | cons x r ih=>exact .cons (ho2 x (by simp)) (ih fun u hu=>ho2 u (by simp [hu]))
 simp only [Value.ownBlock,Option.some.injEq] at hg'
 subst hg'
 exact (Array.getElem?_eq_some_iff.1 hg).1
theorem bytesT_spec {t:TypeId} {n b:Nat} {z:List Value} (hs:sizeT P t=some n) (hb:bytesT P t=some b) (hz:zeroT P t=some z):∃ i v,P.info? t=some i∧i.size=n∧i.bytes=b∧i.zero=some v∧v.cells.toList=z ∧ ∀ u∈z,u.oneCell'=true:=by
 obtain ⟨i,hi,hn⟩:=sizeT_spec hs
 have hb':i.bytes=b:=by simpa [bytesT,hi] using hb
 unfold zeroT at hz
 split at hz
 ·rename_i v hv
  split at hz
  ·rename_i h1
   simp only [Option.some.injEq] at hz
   simp only [hi,Option.bind_some] at hv
   exact ⟨i,v,hi,hn,hb',hv,hz,fun u hu=>List.all_eq_true.1 h1 u (by rw [hz]; exact hu)⟩
  cases hz
 cases hz
theorem e_app (hE:EnvR ρ s.env a.tmps) (hC:Core w0 cx ρ s.H w) {t u e:TypeId} {du:TypeDesc} {x y:Operand} {x' y':X} {wd bt:Nat} {z:List Value} {args:Array Operand} {ts:Array TypeId}
 (hop:o.op = .call { callee := .builtin .append,args:=args,argTypes:=ts }) (hargs:args.toList=[x,y]) (hts:ts.toList=[t,u]) (ht:P.underlying t=some (.slice e)) (hu:P.underlying u=some du) (hdu:srcT du=true)
 (hs:sizeT P e=some wd) (hb:bytesT P e=some bt) (hz:zeroT P e=some z) (hzl:z.length=wd) (hx:compX x=some x') (hy:compX y=some y') (h:evI P w0 (.app e wd bt x' y') s K):EOk P w0 cx o a ρ s K w:=by
 simp only [evI,appI] at h
 obtain ⟨c,hA1,hR⟩:=getC_R hE hx h
 clear h
 obtain ⟨d,h,hRd⟩:=getC_R hE hy hA1
 clear hA1
 obtain ⟨i,zv,hi,rfl,rfl,hiz,hzv,hz1⟩:=bytesT_spec hs hb hz
 have hzs:zv.cells.size=i.size:=by rw [← hzl,← hzv]; simp
 have hz1':∀ u∈zv.cells.toList,u.oneCell'=true:=by rw [hzv]; exact hz1
 have hav:args.map a.eval = #[a.eval x,a.eval y]:=by apply Array.toList_inj.1; simp [hargs]
 have htv:ts = #[t,u]:=Array.toList_inj.1 (by simp [hts])
 have hrunop:∀ v' w',(Builtin.append_ #[t,u] o.type #[a.eval x,a.eval y]).run P w = .ok v' w'→(execOp a.eval o).run P w = .ok (.value v') w':=by
  intro v' w' hr
  rw [run_call_builtin hop,hav,htv]
  simp [builtin,hr]
 split at h
 case h_1 b n =>
  split at h
  case h_2=>exact h.elim
  case h_1 α wr T' en bs wd' xs hbk =>
   obtain ⟨hck,hn,ys,hsrc,hby,h63,hset⟩:=chk_spec h
   clear h
   simp only [Bool.and_eq_true] at hck
   obtain ⟨hwr,hT,hw⟩:=hck
   have hT2:T'=e:=by simpa using hT
   have hw2:wd'=i.size:=by simpa using hw
   subst hwr hT2 hw2
   obtain ⟨_,hpush⟩:=setF_spec hset
   have hK:=pushF_spec hpush
   clear hset hpush
   obtain ⟨e1,hρ,h0,hlen,h2⟩:=hC.rh.get hbk
   obtain ⟨news,hAn,hL,hF⟩:=src_sound (P:=P) hC.rh hlen hRd hsrc
   have hnl:news.length=ys.length*i.size:=by rw [← hAn.length,flat_length hlen]
   obtain ⟨e1',he1,hRv⟩:=hR
   rw [hρ] at he1
   cases he1
   -- the row that is appended to
   have howned:∃ vs,w.ownsRow 0 T' i.size (a.eval x) n vs∧All2 (CV.R ρ) (flat en bs xs) vs∧(a.eval x).ownBlock=e1.1∧(∀ g cur,(a.eval x).ownBlock=some g→w.heap[g]? = some (.cells cur T' (0,0)) → ∀ u∈cur.toList,u.oneCell'=true):=by
    rcases h2 with ⟨h2,hx0,_⟩ | ⟨g',arr,fz,h2,h3,h4,h5,hc,⟨sp,h6,h7⟩,h8⟩
    ·subst hx0
     have hn0:n=0:=by simpa using hn
     subst hn0
     rcases hRv with ⟨g,hg,_,_⟩ | ⟨_,_,hv⟩
     ·rw [h2] at hg; cases hg
     rw [hv]
     exact ⟨[],World.ownsRow_nil w 0 T' i.size,.nil,by simp [Value.ownBlock,h2],fun g cur hg=>by simp [Value.ownBlock] at hg⟩
    rcases hRv with ⟨g,hg,hv,_⟩ | ⟨hg,_⟩
    ·rw [h2] at hg
     cases hg
     have hfz:=h8 rfl
     subst hfz
     obtain ⟨m1,m2,hm,hA1,hA2⟩:=h6.split_
     have hm1:m1.length=n*i.size:=by rw [← hA1.length,flat_length hlen,hn]
     rw [hv]
     refine ⟨m1,⟨hm1,.inr ⟨g',e1.2,arr,rfl,Nat.zero_le _,h3,by omega,by simp only [maxLen]; omega,h4,?_⟩⟩,hA1,by simp [Value.ownBlock,h2],fun g cur hg hh => ?_⟩
     ·rw [hm,← hm1]; exact List.take_left
     simp only [Value.ownBlock,Option.some.injEq] at hg
     subst hg
     rw [h3] at hh
     simp only [Option.some.injEq,Obj.cells.injEq] at hh
     obtain ⟨rfl,_,_⟩:=hh
     exact h6.one'
    rw [h2] at hg; cases hg
   obtain ⟨vs,hown,hAx,hob,hone⟩:=howned
   have hnm:(xs++ys).length=n+ys.length:=by rw [List.length_append,hn]
   rw [hnm] at hby h63
   obtain ⟨v',w',hr,hown',hgr,hob',hone'⟩:=run_append_gen (P:=P) (ty:=o.type) ht hu hdu hi hiz hzs hown hL hF hnl hAn.one' (by simp only [maxLen]; omega) hby hz1' hAx.one' hone
   have hAall:All2 (CV.R ρ) (flat en bs (xs++ys)) (vs++news):=by
    have:flat en bs (xs++ys)=flat en bs xs++flat en bs ys:=by simp [flat]
    rw [this]
    exact hAx.append hAn
   obtain ⟨cap,hok,hRn,hlt⟩:=vec_of_owned (e:=en) (bs:=bs) (xs:=xs++ys) h0 hlen hown' hnm hone'
   have hCn:Core w0 cx (ρ ++ [(v'.ownBlock,cap)]) (s.H.set b .dead++[.vec true T' en bs i.size (xs++ys)]) w':=by
    refine hC.move hbk rfl hρ hgr.os hgr.tape hgr.output hgr.size (fun j hj hne=>hgr.block j hj (by rw [hob]; exact hne)) (hok _ (hAall.mono fun _ _=>CV.R.more _)) fun g hg=>⟨?_,hlt g hg⟩
    rcases hob' with h | h
    ·exact .inl (by rw [← hob,← h]; exact hg)
    rw [h] at hg
    cases hg
    exact .inr (Nat.le_refl _)
   refine eok_of_run ⟨_,_,_,_,_,hK,rfl,?_,hCn,hrunop _ _ hr⟩
   have:=hRn (0+(s.H.set b .dead).length) (ρ ++ [(v'.ownBlock,cap)]) (by rw [Nat.zero_add,List.length_set,← hC.rh.len]; simp)
   rw [← hnm] at this
   exact this
 case h_2 b wd1 o' n p =>
  split at h
  case h_2=>exact h.elim
  case h_1 α wr T' en bs wd' xs hbk =>
   obtain ⟨hck,hn,ys,hsrc,hby,h63,hset⟩:=chk_spec h
   clear h
   simp only [Bool.and_eq_true] at hck
   obtain ⟨hwr,hT,hw,hw1⟩:=hck
   have hT2:T'=e:=by simpa using hT
   have hw2:wd'=i.size:=by simpa using hw
   have hw3:wd1=i.size:=by simpa using hw1
   subst hwr hT2 hw2 hw3
   obtain ⟨_,hall⟩:=setF_spec hset
   clear hset
   obtain ⟨e1,hρ,h0,hlen,h2⟩:=hC.rh.get hbk
   obtain ⟨news,hAn,hL,hF⟩:=src_sound (P:=P) hC.rh hlen hRd hsrc
   have hnl:news.length=ys.length*i.size:=by rw [← hAn.length,flat_length hlen]
   obtain ⟨e1',he1,hRv⟩:=hR
   rw [hρ] at he1
   cases he1
   have hxy:(xs++ys).length=xs.length+ys.length:=List.length_append
   have hdl:(xs.drop o').length=n:=by rw [List.length_drop]; omega
   have hnm:(xs.drop o'++ys).length=n+ys.length:=by rw [List.length_append,hdl]
   rw [hxy] at hby h63
   have hby2:(n+ys.length)*i.bytes≤140737488355328:=Nat.le_trans (Nat.mul_le_mul_right _ (by omega)) hby
   have hend:∀ (v':Value) (w':World) (zs:List α) (vs:List Value),(execOp a.eval o).run P w = .ok (.value v') w'→zs=xs.drop o'++ys→All2 (CV.R ρ) (flat en bs zs) vs→w'.ownsRow 0 T' i.size v' (n+ys.length) vs→w.grownBy w' e1.1 →
    (v'.ownBlock=e1.1∨v'.ownBlock=some w.heap.size)→(∀ g cur fz,v'.ownBlock=some g→w'.heap[g]? = some (.cells cur T' fz) → ∀ u∈cur.toList,u.oneCell'=true)→EOk P w0 cx o a ρ s K w:=by
    intro v' w' zs vs hr hzs hAall hown' hgr hob' hone'
    subst hzs
    have hK:=pushF_spec (hall 0 0 (xs.drop o'++ys) (Nat.zero_le _) rfl (by omega))
    obtain ⟨cap,hok,hRn,hlt⟩:=vec_of_owned (e:=en) (bs:=bs) (xs:=xs.drop o'++ys) h0 hlen hown' hnm hone'
    have hCn:Core w0 cx (ρ ++ [(v'.ownBlock,cap)]) (s.H.set b .dead++[.vec true T' en bs i.size (xs.drop o'++ys)]) w':=by
     refine hC.move hbk rfl hρ hgr.os hgr.tape hgr.output hgr.size (fun j hj hne=>hgr.block j hj hne) (hok _ (hAall.mono fun _ _=>CV.R.more _)) fun g hg=>⟨?_,hlt g hg⟩
     rcases hob' with h | h
     ·exact .inl (by rw [← h]; exact hg)
     rw [h] at hg
     cases hg
     exact .inr (Nat.le_refl _)
    refine eok_of_run ⟨_,_,_,_,_,hK,rfl,?_,hCn,hr⟩
    obtain ⟨e2,he2,hv2⟩:=hRn (0+(s.H.set b .dead).length) (ρ ++ [(v'.ownBlock,cap)]) (by rw [Nat.zero_add,List.length_set,← hC.rh.len]; simp)
    refine ⟨e2,he2,?_⟩
    rcases hv2 with ⟨g,hg,hv3,hle⟩ | ⟨hg,hn3,hv3⟩
    ·exact .inl ⟨g,hg,by rw [hv3]; rfl,by omega,fun _=>by simp⟩
    exact .inr ⟨hg,hn3,rfl,hv3⟩
   rcases hRv with ⟨g,hg,hv,hoe,hp⟩ | ⟨hg,hn0,ho0,hv⟩
   ·rcases h2 with ⟨h2,_,_⟩ | ⟨g',arr,fz,h2,h3,h4,h5,hc,⟨sp,h6,h7⟩,h8⟩
    ·rw [h2] at hg; cases hg
    rw [h2] at hg
    cases hg
    have hfz:=h8 rfl
    subst hfz
    obtain ⟨c,hc2⟩:∃ c,e1.2=o'+c:=⟨e1.2 - o',by omega⟩
    have hcc:e1.2 - o'=c:=by omega
    rw [hcc] at hv
    obtain ⟨m1,m2,hm,hA1,hA2⟩:=h6.split_
    have hm1:m1.length=xs.length*i.size:=by rw [← hA1.length,flat_length hlen]
    have hmul:(o'+n)*i.size=o'*i.size+n*i.size:=Nat.add_mul _ _ _
    have hdr:(arr.toList.drop (o'*i.size)).take (n*i.size)=m1.drop (o'*i.size):=by
     rw [hm,List.drop_append_of_le_length (by rw [hm1,← hn]; omega),List.take_append_of_le_length (by rw [List.length_drop,hm1,← hn]; omega),List.take_of_length_le (by rw [List.length_drop,hm1,← hn]; omega)]
    have hAx:All2 (CV.R ρ) (flat en bs (xs.drop o')) (m1.drop (o'*i.size)):=by
     have:=hA1.drop_ (o'*i.size)
     rw [flat_drop hlen o' xs (by omega)] at this
     exact this
    have hrun:=run_append_off (P:=P) (ty:=o.type) (w:=w) ht hu hdu hi hiz hzs (o:=o') (n:=n) (m:=ys.length) (c:=c) (p:=p) h3 (by rw [h4,hc2]) (by omega) (fun h=>hp (by omega)) hdr h6.one' hL hF hnl hAn.one' (by simp only [maxLen]; omega) hby2 hz1'
    rw [← hv] at hrun
    rcases hrun with ⟨hroom,hr⟩ | ⟨v',w',hr,hown',hgr,hob',hone'⟩
    ·have hK:=pushF_spec (hall o' p (xs++ys) (Nat.le_refl _) (by rw [List.drop_append_of_le_length (by omega)]) (by omega))
     have hcur:arr.toList.take ((o'+n)*i.size)++news++arr.toList.drop ((o'+n)*i.size+news.length)=m1++news++m2.drop news.length:=by
      rw [hm,hn,← hm1,List.take_left,List.drop_append,List.drop_eq_nil_of_le (by omega),List.nil_append]
      congr 2
      omega
     rw [hcur] at hr
     have hAll:All2 (CV.R ρ) (flat en bs (xs++ys)++sp.drop news.length) (m1++news++m2.drop news.length):=by
      have:flat en bs (xs++ys)=flat en bs xs++flat en bs ys:=by simp [flat]
      rw [this]
      exact (hA1.append hAn).append (hA2.drop_ _)
     have hsz:(m1++news++m2.drop news.length).length=e1.2*i.size:=by
      have e1':arr.size=m1.length+m2.length:=by rw [← Array.length_toList,hm,List.length_append]
      have e2:(o'+(n+ys.length))*i.size≤e1.2*i.size:=Nat.mul_le_mul_right _ (by omega)
      rw [Nat.add_mul,Nat.add_mul] at e2
      rw [List.length_append,List.length_append,List.length_drop]
      have e3:xs.length*i.size=o'*i.size+n*i.size:=by rw [← hn,hmul]
      omega
     have hCn:Core w0 cx (ρ ++ [e1]) (s.H.set b .dead++[.vec true T' en bs i.size (xs++ys)]) (w.setRow g (m1++news++m2.drop news.length).toArray):=by
      refine hC.move hbk rfl hρ rfl rfl rfl (by simp) (fun j hj hne=>setRow_other w g j _ fun h=>hne (by rw [h2,h])) ⟨h0,hlen,.inr ⟨g,_,(0,0),h2,setRow_heap w g arr _ T' _ h3,by rw [List.size_toArray,hsz],by omega,hc,⟨sp.drop news.length,(hAll.mono fun _ _=>CV.R.more _),fun x hx=>h7 x (List.mem_of_mem_drop hx)⟩,fun _=>rfl⟩⟩ fun g2 hg=>⟨.inl hg,?_⟩
      rw [h2] at hg
      cases hg
      have:=(Array.getElem?_eq_some_iff.1 h3).1
      simpa using this
     refine eok_of_run ⟨_,_,_,_,_,hK,rfl,⟨e1,?_,.inl ⟨g,h2,by rw [hcc],by omega,hp⟩⟩,hCn,hrunop _ _ hr⟩
     rw [Nat.zero_add,List.length_set,← hC.rh.len]
     simp
    refine hend v' w' _ _ (hrunop _ _ hr) rfl ?_ hown' ⟨hgr.os,hgr.tape,hgr.output,hgr.size,fun j hj _=>hgr.block j hj (by simp)⟩ (.inr hob') hone'
    have:flat en bs (xs.drop o'++ys)=flat en bs (xs.drop o')++flat en bs ys:=by simp [flat]
    rw [this]
    exact hAx.append hAn
   subst hn0 ho0
   have hx0:xs=[]:=List.eq_nil_of_length_eq_zero (by omega)
   subst hx0
   have hown:w.ownsRow 0 T' i.size (a.eval x) 0 []:=by rw [hv]; exact World.ownsRow_nil w 0 T' i.size
   have hob:(a.eval x).ownBlock=none:=by rw [hv]; rfl
   obtain ⟨v',w',hr,hown',hgr,hob',hone'⟩:=run_append_gen (P:=P) (ty:=o.type) ht hu hdu hi hiz hzs hown hL hF hnl hAn.one' (by simp only [maxLen]; omega) hby2 hz1' (by simp) (fun g cur hg=>by rw [hob] at hg; cases hg)
   refine hend v' w' _ _ (hrunop _ _ hr) rfl ?_ hown' (by rw [hg,← hob]; exact hgr) (by rw [hg,← hob]; exact hob') hone'
   simpa using hAn
 case h_3 =>
  obtain ⟨h0,α,en,bs,ys,hlen,hsrc,hby,h63,hpush⟩:=h
  have hK:=pushF_spec hpush
  clear hpush
  obtain ⟨hv,_⟩:=hR
  obtain ⟨news,hAn,hL,hF⟩:=src_sound (P:=P) hC.rh hlen hRd hsrc
  have hnl:news.length=ys.length*i.size:=by rw [← hAn.length,flat_length hlen]
  have hown:w.ownsRow 0 e i.size (a.eval x) 0 []:=by rw [hv]; exact World.ownsRow_nil w 0 e i.size
  obtain ⟨v',w',hr,hown',hgr,hob',hone'⟩:=run_append_gen (P:=P) (ty:=o.type) ht hu hdu hi hiz hzs hown hL hF hnl hAn.one' (by simp only [maxLen]; omega) (by rw [Nat.zero_add]; exact hby) hz1' (by simp) (fun g cur hg=>by rw [hv] at hg; simp [Value.ownBlock] at hg)
  rw [Nat.zero_add,List.nil_append] at hown'
  obtain ⟨cap,hok,hRn,hlt⟩:=vec_of_owned (e:=en) (bs:=bs) (xs:=ys) h0 hlen hown' rfl hone'
  have hob:(a.eval x).ownBlock=none:=by rw [hv]; rfl
  have hCn:Core w0 cx (ρ ++ [(v'.ownBlock,cap)]) (s.H++[.vec true e en bs i.size ys]) w':=by
   refine hC.pushG hgr.os hgr.tape hgr.output hgr.size (fun j hj=>hgr.block j hj (by rw [hob]; exact nofun)) (hok _ (hAn.mono fun _ _=>CV.R.more _)) fun g hg=>⟨?_,hlt g hg⟩
   rcases hob' with h | h
   ·rw [h,hob] at hg; cases hg
   rw [h] at hg
   cases hg
   exact Nat.le_refl _
  exact eok_of_run ⟨_,_,_,_,_,hK,rfl,hRn (0+s.H.length) (ρ ++ [(v'.ownBlock,cap)]) (by rw [Nat.zero_add,← hC.rh.len]; simp),hCn,hrunop _ _ hr⟩
 case h_4=>exact h.elim
theorem Ghost.core {H H1:List Blk} (hg:Ghost w0 H H1) (hC:Core w0 cx ρ H w):∃ t,Core w0 cx (ρ ++ t) H1 w:=by
 obtain ⟨t,h1,h2⟩:=hg ρ w hC.rh
 obtain ⟨u,hu⟩:=hC.pre
 exact ⟨t,h1,hC.fr,fun g hg=>hC.own g (h2 g hg),u++t,by rw [hu,List.append_assoc]⟩
theorem e_apx (hE:EnvR ρ s.env a.tmps) (hC:Core w0 cx ρ s.H w) {t u e:TypeId} {du:TypeDesc} {x y:Operand} {x' y':X} {wd bt:Nat} {z:List Value} {args:Array Operand} {ts:Array TypeId}
 (hop:o.op = .call { callee := .builtin .append,args:=args,argTypes:=ts }) (hargs:args.toList=[x,y]) (hts:ts.toList=[t,u]) (ht:P.underlying t=some (.slice e)) (hu:P.underlying u=some du) (hdu:srcT du=true)
 (hs:sizeT P e=some wd) (hb:bytesT P e=some bt) (hz:zeroT P e=some z) (hzl:z.length=wd) (hx:compX x=some x') (hy:compX y=some y') (h:evI P w0 (.apx e wd bt x' y') s K):EOk P w0 cx o a ρ s K w:=by
 obtain ⟨H1,hg,h⟩:=h
 obtain ⟨tt,hC1⟩:=hg.core hC
 have hE1:EnvR (ρ ++ tt) (S.mk s.env H1).env a.tmps:=hE.more tt
 have h2:=e_app (s:=⟨s.env,H1⟩) (K:=K) hE1 hC1 hop hargs hts ht hu hdu hs hb hz hzl hx hy (by simp only [evI]; exact h)
 intro next Q hn
 refine h2 next Q fun x s' t' v w' hK he hR hCw => ?_
 rw [List.append_assoc] at hR hCw
 exact hn x s' (tt++t') v w' hK he hR hCw
theorem e_mks (hE:EnvR ρ s.env a.tmps) (hC:Core w0 cx ρ s.H w) {t e:TypeId} {x y:Operand} {x' y':X} {wd bt:Nat} {z:List Value} (hop:o.op = .makeSlice t x y) (ht:P.underlying t=some (.slice e))
 (hs:sizeT P e=some wd) (hb:bytesT P e=some bt) (hz:zeroT P e=some z) (hzl:z.length=wd) (hx:compX x=some x') (hy:compX y=some y') (h:evI P w0 (.mks e wd bt z x' y') s K):EOk P w0 cx o a ρ s K w:=by
 simp only [evI] at h
 obtain ⟨k1,n,hA1,he1⟩:=getI_R hE hx h
 clear h
 obtain ⟨k2,c,⟨⟨hn0,hnc,hby,hc63,hw⟩,hm⟩,he2⟩:=getI_R hE hy hA1
 clear hA1
 obtain ⟨α,en,ebs,q,hlen,hq,hpush⟩:=mapF_spec hm
 have hK:=pushF_spec hpush
 clear hpush hm
 obtain ⟨i,zv,hi,rfl,rfl,hiz,hzv,hz1⟩:=bytesT_spec hs hb hz
 have hzs:zv.cells.size=i.size:=by rw [← hzl,← hzv]; simp
 have hr:=run_make (P:=P) w t e i zv ht hi hiz k1 k2 n c hn0 hnc (by rw [Int.mul_comm]; omega) (by omega)
 obtain ⟨n,rfl⟩:=Int.eq_ofNat_of_zero_le hn0
 obtain ⟨c,rfl⟩:=Int.eq_ofNat_of_zero_le (Int.le_trans hn0 hnc)
 simp only [Int.toNat_natCast] at hr hK
 have hnc':n≤c:=by omega
 have hcells:(madeCells zv.cells (c*i.size)).toList=(List.replicate n z).flatten++(List.replicate (c - n) z).flatten:=by
  have:=range_zero (len:=c) hzs (by omega)
  rw [hzv] at this
  rw [madeCells,this,← List.flatten_append,List.replicate_append_replicate]
  congr 2
  omega
 have hflat:flat en ebs (List.replicate n q)=(List.replicate n (z.map .val)).flatten:=by
  rw [← hq]
  clear hr hK hcells hnc hnc' hn0 he1
  induction n with
  | zero=>rfl
  | succ n ih=>simp only [flat,List.replicate_succ,List.flatMap_cons,List.flatten_cons] at ih ⊢; rw [ih]
 have hzR:∀ (ρ:Ren) (n:Nat),All2 (CV.R ρ) (List.replicate n (z.map .val)).flatten (List.replicate n z).flatten:=by
  intro ρ n
  induction n with
  | zero=>exact .nil
  | succ n ih=>simp only [List.replicate_succ,List.flatten_cons]; exact (zero_R hz1).append ih
 have hspare:∀ (ρ:Ren),All2 (CV.R ρ) (List.replicate ((List.replicate (c - n) z).flatten).length .any) (List.replicate (c - n) z).flatten:=by
  intro ρ
  have ho:∀ u∈(List.replicate (c - n) z).flatten,u.oneCell'=true:=fun u hu=>by
   obtain ⟨l,hl,hul⟩:=List.mem_flatten.1 hu
   rw [List.eq_of_mem_replicate hl] at hul
   exact hz1 u hul
  generalize (List.replicate (c - n) z).flatten=l at ho
  induction l with
  | nil=>exact .nil
  | cons x r ih=>exact .cons (ho x (by simp)) (ih fun u hu=>ho u (by simp [hu]))
 obtain ⟨f1,f2,f3,f4⟩:=alloc_facts (w:=w) (.cells (madeCells zv.cells (c*i.size)) e)
 have hCn:Core w0 cx (ρ ++ [(some w.heap.size,c)]) (s.H++[.vec true e en ebs i.size (List.replicate n q)]) (w.alloc (.cells (madeCells zv.cells (c*i.size)) e)):=by
  refine hC.push f1 f2 f3 f4 ⟨hw,hlen,.inr ⟨w.heap.size,madeCells zv.cells (c*i.size),(0,0),rfl,by rw [f4]; simp,size_madeCells _ _,by simpa using hnc',by omega,⟨List.replicate ((List.replicate (c - n) z).flatten).length .any,?_,fun x hx=>List.eq_of_mem_replicate hx⟩,fun _=>rfl⟩⟩
  rw [hcells,hflat]
  exact (hzR _ n).append (hspare _)
 rcases hK with hK | hK
 ·refine eok_of_run ⟨_,_,_,.slice (some ⟨w.heap.size,0,none⟩) n c,_,hK,rfl,⟨(some w.heap.size,c),by rw [Nat.zero_add,← hC.rh.len]; simp,.inl ⟨_,rfl,rfl,hnc'⟩⟩,hCn,?_⟩
  simp [execOp,hop,he1,he2,hr]
 refine eok_of_run ⟨_,_,_,.slice (some ⟨w.heap.size,0,none⟩) n c,_,hK,rfl,⟨w.heap.size,?_,by simp,hnc'⟩,hCn,?_⟩
 ·unfold Ren.at
  rw [Nat.zero_add,← hC.rh.len]
  simp
 simp [execOp,hop,he1,he2,hr]
theorem e_call (hE:EnvR ρ s.env a.tmps) (hC:Core w0 cx ρ s.H w) {f:FuncId} {args:Array Operand} {ts:Array TypeId} {xs:List X} (hop:o.op = .call { callee := .value (.func f),args:=args,argTypes:=ts })
 (hx:compXs args.toList=some xs) (h:evI P w0 (.call f xs) s K):EOk P w0 cx o a ρ s K w:=by
 simp only [evI] at h
 obtain ⟨l,hcall,hA⟩:=get1s_R hE hx h
 clear h
 intro next Q hn
 have hcal:=hcall.cal
 have hout:=hcall.out ρ w _ hC.rh hA
 have hrun:(execOp a.eval o).run P w = .ok (.enter f (args.toList.map a.eval).toArray) w:=by
  cases hf:P.funcs[f]? with
  | none=>rw [hf] at hcal; cases hcal
  | some fn =>
   have eargs:(args.toList.map a.eval).toArray=args.map a.eval:=by apply Array.toList_inj.1; simp
   rw [hf] at hcal
   simp only [Bool.and_eq_true,Bool.not_eq_true'] at hcal
   obtain ⟨hb,hnm⟩:=hcal
   have hnb:fn.body.isNone=false:=by cases hbd:fn.body with | none=>rw [hbd] at hb; cases hb | some _=>rfl
   simp only [execOp,hop,resolve,Act.eval,Deferred.ofValue,Sem.run_bind,Sem.run_pure,Result.andThen_ok,invoke,callFunc,run_program,hf,hnm,hnb,eargs]
   simp
 unfold Oper.wp
 rw [hrun,Oper.upon_enter]
 refine hout.mono fun e w' he => ?_
 obtain ⟨r,H',ρ',v,hK,rfl,hR,hRH,⟨t,rfl⟩,hfr,himg⟩:=he
 refine hn r { s with H:=H' } t v w' hK rfl hR ?_
 refine Core.next hC hRH.len hfr hRH.ok hRH.inj fun g hg=>⟨himg g hg,(hRH.lo g hg).2⟩
theorem e_xcl (hE:EnvR ρ s.env a.tmps) (hC:Core w0 cx ρ s.H w) {f:FuncId} {args:Array Operand} {ts:Array TypeId} {x:Operand} {x':X} (hop:o.op = .call { callee := .value (.func f),args:=args,argTypes:=ts })
 (ha:args.toList=[x]) (hx:compX x=some x') (h:evI P w0 (.xcl f x') s K):EOk P w0 cx o a ρ s K w:=by
 simp only [evI] at h
 obtain ⟨c,h,hR⟩:=getC_R hE hx h
 cases c <;> simp only at h
 case val v =>
  obtain ⟨r,⟨h1,h2⟩,hK⟩:=h
  obtain ⟨he,_⟩:=hR
  have ea:args.map a.eval = #[v]:=by apply Array.toList_inj.1; simp [ha,he]
  refine eok_of_run ⟨_,_,[],r,w,hK,rfl,⟨rfl,h1⟩,by rw [List.append_nil]; exact hC,?_⟩
  simp only [execOp,hop,resolve,Act.eval,Deferred.ofValue,Sem.run_bind,Sem.run_pure,Result.andThen_ok,invoke,Array.empty_append,ea,Array.append_empty,h2]
theorem enter_run {f:FuncId} (hcal:(match P.funcs[f]? with | some fn=>fn.body.isSome && !(fn.name == "runtime.NumGoroutine") | none=>false)=true) (args:Array Value):(callFunc f args).run P w = .ok (.enter f args) w:=by
 cases hf:P.funcs[f]? with
 | none=>rw [hf] at hcal; cases hcal
 | some fn =>
  rw [hf] at hcal
  simp only [Bool.and_eq_true,Bool.not_eq_true'] at hcal
  obtain ⟨hb,hnm⟩:=hcal
  have hnb:fn.body.isNone=false:=by cases hbd:fn.body with | none=>rw [hbd] at hb; cases hb | some _=>rfl
  simp only [callFunc,Sem.run_bind,run_program,Result.andThen_ok,hf,hnm,hnb]
  simp
theorem eok_enter (hC:Core w0 cx ρ s.H w) {f:FuncId} {l:List A1} {vs:List Value} (hcall:CallsA P w0 f l s.H fun r H=>K r { s with H:=H }) (hA:All2 (A1.R ρ) l vs)
 (hrun:(execOp a.eval o).run P w = .ok (.enter f vs.toArray) w):EOk P w0 cx o a ρ s K w:=by
 intro next Q hn
 have hout:=hcall.out ρ w _ hC.rh hA
 unfold Oper.wp
 rw [hrun,Oper.upon_enter]
 refine hout.mono fun e w' he => ?_
 obtain ⟨r,H',ρ',v,hK,rfl,hR,hRH,⟨t,rfl⟩,hfr,himg⟩:=he
 refine hn r { s with H:=H' } t v w' hK rfl hR ?_
 refine Core.next hC hRH.len hfr hRH.ok hRH.inj fun g hg=>⟨himg g hg,(hRH.lo g hg).2⟩
theorem caps_R {ps:List (Nat × Nat)} {vs:List Value} (h:All2 (fun (c:Nat × Nat) v => ∃ h,ρ.at c.1=some h∧v=Value.pointer (some ⟨h,c.2,none⟩)) ps vs):All2 (A1.R ρ) (ps.map fun p=>A1.c (.ptr p.1 p.2)) vs:=by
 induction h with
 | nil=>exact .nil
 | cons h _ ih=>exact .cons h ih
theorem e_clc (hE:EnvR ρ s.env a.tmps) (hC:Core w0 cx ρ s.H w) {t:Nat} {args:Array Operand} {ts:Array TypeId} {xs:List X} (hop:o.op = .call { callee := .value (.tmp t),args:=args,argTypes:=ts })
 (hx:compXs args.toList=some xs) (h:evI P w0 (.clc (.t t) xs) s K):EOk P w0 cx o a ρ s K w:=by
 simp only [evI] at h
 obtain ⟨z,h,hR⟩:=getC_R hE (show compX (.tmp t)=some (.t t) from rfl) h
 split at h
 case h_1 g ps =>
  obtain ⟨vs,hv,hps⟩:=hR
  obtain ⟨l,hcall,hA⟩:=get1s_R hE hx h
  refine eok_enter hC hcall (hA.append (caps_R hps)) ?_
  have hrun:=enter_run (w:=w) hcall.cal (args.map a.eval++vs)
  have e:(args.toList.map a.eval++vs.toList).toArray=args.map a.eval++vs:=by apply Array.toList_inj.1; simp
  rw [e]
  simp only [execOp,hop,resolve,hv,Deferred.ofValue,Sem.run_bind,Sem.run_pure,Result.andThen_ok,invoke,Array.empty_append,hrun]
 case h_2 f b o' =>
  obtain ⟨g,hg,hv⟩:=hR
  obtain ⟨l,hcall,hA⟩:=get1s_R hE hx h
  refine eok_enter hC hcall (.cons ⟨g,hg,rfl⟩ hA) ?_
  have hrun:=enter_run (w:=w) hcall.cal (#[Value.pointer (some ⟨g,o',none⟩)]++args.map a.eval)
  have e:(Value.pointer (some ⟨g,o',none⟩)::args.toList.map a.eval).toArray = #[Value.pointer (some ⟨g,o',none⟩)]++args.map a.eval:=by apply Array.toList_inj.1; simp
  rw [e]
  simp only [execOp,hop,resolve,hv,Deferred.ofValue,Sem.run_bind,Sem.run_pure,Result.andThen_ok,invoke,Array.append_empty,hrun]
 case h_3=>exact h.elim
theorem app1_get (v:Value) (l:Array Value):(#[v]++l)[0]? = some v:=by
 rw [← Array.getElem?_toList]
 simp
theorem app1_cut (v:Value) (l:Array Value):(#[v]++l).extract 1 (#[v]++l).size=l:=by
 apply Array.toList_inj.1
 simp
theorem e_inv (hE:EnvR ρ s.env a.tmps) (hC:Core w0 cx ρ s.H w) {recv:Operand} {name:String} {args:Array Operand} {ts:Array TypeId} {x:X} {xs:List X} (hop:o.op = .call { callee := .invoke recv name,args:=args,argTypes:=ts })
 (hr:compX recv=some x) (hx:compXs args.toList=some xs) (h:evI P w0 (.inv x name xs) s K):EOk P w0 cx o a ρ s K w:=by
 simp only [evI] at h
 obtain ⟨z,h,hR⟩:=getC_R hE hr h
 split at h
 case h_1 t b o' =>
  obtain ⟨g,hg,hv⟩:=hR
  obtain ⟨f,hm,h⟩:=h
  obtain ⟨l,hcall,hA⟩:=get1s_R hE hx h
  refine eok_enter hC hcall (.cons ⟨g,hg,rfl⟩ hA) ?_
  have hrun:=enter_run (w:=w) hcall.cal (#[Value.pointer (some ⟨g,o',none⟩)]++args.map a.eval)
  have e:(Value.pointer (some ⟨g,o',none⟩)::args.toList.map a.eval).toArray = #[Value.pointer (some ⟨g,o',none⟩)]++args.map a.eval:=by apply Array.toList_inj.1; simp
  have e2:=app1_get (Value.iface t (.pointer (some ⟨g,o',none⟩))) (args.map a.eval)
  have e3:=app1_cut (Value.iface t (.pointer (some ⟨g,o',none⟩))) (args.map a.eval)
  rw [e]
  simp only [execOp,hop,resolve,hv,Sem.run_bind,Sem.run_pure,Result.andThen_ok,invoke,e2,callMethod,run_program,hm ⟨g,o',none⟩ w,e3,hrun]
 case h_2=>exact h.elim
theorem e_ieq (hE:EnvR ρ s.env a.tmps) (hC:Core w0 cx ρ s.H w) {op:BinOp} {t u:TypeId} {x y:Operand} {x':X} {k:Nat} {neg:Bool} (hop:o.op = .binOp op t x y u) (hn:(op = .eql∧neg=false)∨(op = .neq∧neg=true))
 (hx:compX x=some x') (hy:compX y=some (.t k)) (h:evI P w0 (.ieq t neg x' (.t k)) s K):EOk P w0 cx o a ρ s K w:=by
 simp only [evI] at h
 obtain ⟨z,h,hR⟩:=getC_R hE hx h
 obtain ⟨z2,h,hR2⟩:=getC_R hE hy h
 have key:∀ (r:Bool),ieqOf P w0 t (a.eval x) (a.eval y) r→(a.eval x = .nilIface→a.eval y ≠ .nilIface)→((∃ t' v',a.eval x = .iface t' v')∨a.eval x = .nilIface)→((∃ t' v',a.eval y = .iface t' v')∨a.eval y = .nilIface)→K (.o (.c (.val (.bool (bif neg then !r else r))))) s→EOk P w0 cx o a ρ s K w:=by
  intro r hr h1 h2 h3 hK
  have hb:=hr w hC.rh.base
  have hbin:(binOp .eql t (a.eval x) (a.eval y)).run P w = .ok (.bool r) w∧(binOp .neq t (a.eval x) (a.eval y)).run P w = .ok (.bool (!r)) w:=by
   rcases h2 with ⟨_,_,h2⟩ | h2 <;> rcases h3 with ⟨_,_,h3⟩ | h3 <;> rw [h2,h3] at hb ⊢ <;> simp [binOp,hb]
  have hg:(eqGuard op t x y (a.eval x) (a.eval y)).run P w = .ok () w:=by
   rcases h2 with ⟨_,_,h2⟩ | h2
   ·rcases h3 with ⟨_,_,h3⟩ | h3 <;> rw [h2,h3] <;> rcases hn with ⟨rfl,_⟩ | ⟨rfl,_⟩ <;> simp [eqGuard]
   rcases h3 with ⟨_,_,h3⟩ | h3
   ·rw [h2,h3]
    rcases hn with ⟨rfl,_⟩ | ⟨rfl,_⟩ <;> simp [eqGuard]
   exact absurd h3 (h1 h2)
  refine eok_of_run ⟨_,s,[],.bool (bif neg then !r else r),w,hK,rfl,⟨rfl,rfl⟩,by rw [List.append_nil]; exact hC,?_⟩
  rcases hn with ⟨rfl,rfl⟩ | ⟨rfl,rfl⟩
  ·simp only [execOp,hop,Sem.run_bind,hg,Result.andThen_ok,hbin.1,cond_false]
   rfl
  simp only [execOp,hop,Sem.run_bind,hg,Result.andThen_ok,hbin.2,cond_true]
  rfl
 split at h
 case h_1 t1 v1 t2 v2 =>
  obtain ⟨r,hr,hK⟩:=h
  obtain ⟨e1,_⟩:=hR
  obtain ⟨e2,_⟩:=hR2
  exact key r (by rw [e1,e2]; exact hr) (fun q=>by rw [e1] at q; cases q) (.inl ⟨_,_,e1⟩) (.inl ⟨_,_,e2⟩) hK
 case h_2 t2 v2 =>
  obtain ⟨hr,hK⟩:=h
  obtain ⟨e1,_⟩:=hR
  obtain ⟨e2,_⟩:=hR2
  exact key false (by rw [e1,e2]; exact hr) (fun _ q=>by rw [e2] at q; cases q) (.inr e1) (.inl ⟨_,_,e2⟩) (by cases neg <;> exact hK)
 case h_3=>exact h.elim
end
end Go.Vc
end
section
namespace Go.Vc
open Go.RowKit (Below)
section
variable {P:Program} {w0:World} {cx:Cx} {ρ:Ren} {s:S} {K:AV→S→Prop} {a:Act} {o:Oper} {w:World}
theorem opt_R (hE:EnvR ρ s.env a.tmps) {q:Option Operand} {q':Option X} {d:Nat} {k:IntKind→Int→Prop} (hq:optX q=some q') (hg:getI s.env (q'.getD (.k (.int .i64 d))) k) :
 ∃ kd n,k kd n∧((q=none∧n=d) ∨ ∃ y,q=some y∧a.eval y = .int kd n):=by
 cases q with
 | none =>
  simp only [optX,Option.some.injEq] at hq
  subst hq
  simp only [Option.getD_none,getI,X.get] at hg
  exact ⟨_,_,hg,.inl ⟨rfl,rfl⟩⟩
 | some y =>
  simp only [optX] at hq
  cases hy:compX y with
  | none=>simp [hy] at hq
  | some z =>
   simp only [hy,Option.map_some,Option.some.injEq] at hq
   subst hq
   simp only [Option.getD_some] at hg
   obtain ⟨kd,n,hk,hn⟩:=getI_R hE hy hg
   exact ⟨kd,n,hk,.inr ⟨y,rfl,hn⟩⟩
theorem run_slc {t e:TypeId} {wd:Nat} (hu:P.underlying t=some (.slice e)) (hs:sizeT P e=some wd) {x:Operand} {lo hi:Option Operand} (hop:o.op = .slice t x lo hi none) {A:Option Addr} {n c:Nat} (he:a.eval x = .slice A n c) {l h:Int}
 {k1 k2:IntKind} (hl:(lo=none∧l=0) ∨ ∃ y,lo=some y∧a.eval y = .int k1 l) (hh:(hi=none∧h=n) ∨ ∃ y,hi=some y∧a.eval y = .int k2 h) (h0:0≤l) (h1:l≤h) (h2:h≤c) (w:World) :
 (execOp a.eval o).run P w = .ok (.value (.slice (if c=l.toNat then A else A.map (·.add (l.toNat*wd))) (h.toNat - l.toNat) (c - l.toNat))) w:=by
 have hh0:0≤h:=by omega
 have e1:l≤max h 0:=by omega
 rcases hl with ⟨rfl,rfl⟩ | ⟨y,rfl,hl⟩ <;> rcases hh with ⟨rfl,rfl⟩ | ⟨z,rfl,hh⟩
 ·simp [execOp,hop,he,Instr.sliceAt,Instr.slice,run_underlying hu,Instr.sliceBounds,run_sizeT hs]
 ·simp [execOp,hop,he,hh,Instr.sliceAt,Instr.slice,run_underlying hu,Instr.sliceBounds,Instr.sliceBound,asIntOf,hh0,h2,run_sizeT hs]
 ·have e2:l≤(n:Int):=h1
  simp [execOp,hop,he,hl,Instr.sliceAt,Instr.slice,run_underlying hu,Instr.sliceBounds,Instr.sliceBound,asIntOf,h0,e2,run_sizeT hs]
 simp [execOp,hop,he,hl,hh,Instr.sliceAt,Instr.slice,run_underlying hu,Instr.sliceBounds,Instr.sliceBound,asIntOf,h0,hh0,h2,e1,run_sizeT hs]
theorem e_slc (hE:EnvR ρ s.env a.tmps) (hC:Core w0 cx ρ s.H w) {t e:TypeId} {wd:Nat} {x:Operand} {lo hi:Option Operand} {x':X} {lo' hi':Option X} (hop:o.op = .slice t x lo hi none) (hu:P.underlying t=some (.slice e)) (hs:sizeT P e=some wd)
 (hx:compX x=some x') (hlo:optX lo=some lo') (hhi:optX hi=some hi') (h:evI P w0 (.slc x' lo' hi' wd) s K):EOk P w0 cx o a ρ s K w:=by
 simp only [evI] at h
 obtain ⟨z,hA1,hR⟩:=getC_R hE hx h
 clear h
 obtain ⟨k1,l,h,hl⟩:=opt_R (d:=0) hE hlo hA1
 clear hA1
 have hl:(lo=none∧l=0) ∨ ∃ y,lo=some y∧a.eval y = .int k1 l:=by simpa using hl
 have hsame:∀ {t:Ren},t=[]→Core w0 cx (ρ ++ t) s.H w:=fun ht=>by subst ht; rw [List.append_nil]; exact hC
 split at h
 case h_1 b n =>
  obtain ⟨k2,r,⟨⟨h0,h1,h2⟩,hK⟩,hh⟩:=opt_R hE hhi h
  clear h
  obtain ⟨e1,hρ,hRv⟩:=hR
  rcases hK with ⟨hK1,hK2,hK3⟩ | ⟨hl0,hK⟩
  ·rcases hRv with ⟨g,hg,hv,hnc⟩ | ⟨hg,hn,hv⟩
   ·have hr:=run_slc hu hs hop hv hl hh h0 h1 (by omega) w
    by_cases hlc:l<e1.2
    ·refine eok_of_run ⟨_,s,[],_,w,hK1 e1.2 (by omega) hlc,rfl,⟨g,by rw [List.append_nil,at_of_get hρ,hg],rfl,by omega⟩,hsame rfl,?_⟩
     rw [hr,if_neg (by omega)]
     simp [addr_add]
    have hln:l=n:=by omega
    refine eok_of_run ⟨_,s,[],_,w,hK2 hln,rfl,⟨g,by rw [List.append_nil,at_of_get hρ,hg],rfl,Nat.le_refl _⟩,hsame rfl,?_⟩
    rw [hr,if_pos (by omega)]
    have e3:r.toNat - l.toNat=0:=by omega
    have e4:e1.2 - l.toNat=0:=by omega
    rw [e3,e4]
    simp
   subst hn
   have hl0:l=0:=by omega
   subst hl0
   have hr0:r=0:=by omega
   subst hr0
   have hr:=run_slc hu hs hop hv hl hh (by omega) (by omega) (by omega) w
   refine eok_of_run ⟨_,s,[],_,w,hK3 rfl rfl,rfl,⟨rfl,rfl⟩,hsame rfl,?_⟩
   rw [hr]
   rfl
  subst hl0
  split at hK
  case h_2=>exact hK.elim
  case h_1 α wr T en bs wd' xs hb =>
   obtain ⟨_,hp⟩:=setF_spec hK
   have hK':=pushF_spec hp
   obtain ⟨e2,hρ2,h3,hlen,h4⟩:=hC.rh.get hb
   rw [hρ] at hρ2
   cases hρ2
   have hid:(ρ ++ [e1])[0+(s.H.set b .dead).length]? = some e1:=by rw [Nat.zero_add,List.length_set,← hC.rh.len]; simp
   have hmove:Core w0 cx (ρ ++ [e1]) (s.H.set b .dead++[.vec wr T en bs wd' (xs.take r.toNat)]) w:=by
    refine hC.move hb rfl hρ rfl rfl rfl (Nat.le_refl _) (fun _ _ _=>rfl) ⟨h3,hlen,?_⟩ fun g hg=>⟨.inl hg,(hC.rh.ok b _ _ hb hρ).block rfl (.inl hg)⟩
    rcases h4 with ⟨h4,hx0,hz⟩ | ⟨g',arr,fz,k2,k3,k4,k5,hc,⟨sp,k6,k7⟩,k8⟩
    ·exact .inl ⟨h4,by rw [hx0]; simp,hz⟩
    refine .inr ⟨g',arr,fz,k2,k3,k4,by rw [List.length_take]; omega,hc,?_,k8⟩
    have hsplit:flat en bs xs=flat en bs (xs.take r.toNat)++flat en bs (xs.drop r.toNat):=by
     conv=>lhs; rw [← List.take_append_drop r.toNat xs]
     simp only [flat,List.flatMap_append]
    rw [hsplit,List.append_assoc] at k6
    obtain ⟨m1,m2,hm,hA1,hA2⟩:=k6.split_
    refine ⟨List.replicate m2.length .any,?_,fun x hx=>List.eq_of_mem_replicate hx⟩
    rw [hm]
    refine (hA1.mono fun _ _=>CV.R.more _).append ?_
    have ho:=hA2.one'
    clear hA2 hm
    induction m2 with
    | nil=>exact .nil
    | cons x r ih=>exact .cons (ho x (by simp)) (ih fun u hu=>ho u (by simp [hu]))
   rcases hRv with ⟨g,hg,hv,hnc⟩ | ⟨hg,hn,hv⟩
   ·have hr:=run_slc hu hs hop hv hl hh (Int.le_refl _) h1 (by omega) w
    refine eok_of_run ⟨_,_,[e1],_,w,hK',rfl,⟨e1,hid,.inl ⟨g,hg,rfl,by omega⟩⟩,hmove,?_⟩
    rw [hr]
    split <;> simp [addr_add]
   subst hn
   have hr0:r=0:=by omega
   subst hr0
   have hr:=run_slc hu hs hop hv hl hh (Int.le_refl _) (Int.le_refl _) (by omega) w
   refine eok_of_run ⟨_,_,[e1],.slice none 0 0,w,hK',rfl,⟨e1,hid,.inr ⟨hg,rfl,rfl⟩⟩,hmove,?_⟩
   rw [hr]
   simp
 case h_2 b wd' o' n c =>
  obtain ⟨k2,r,hch,hh⟩:=opt_R hE hhi h
  clear h
  obtain ⟨hw,⟨h0,h1,h2⟩,hK1,hK2⟩:=chk_spec hch
  have hw2:wd'=wd:=by simpa using hw
  subst hw2
  obtain ⟨g,hg,hv,hnc⟩:=hR
  have hr:=run_slc hu hs hop hv hl hh h0 h1 (by omega) w
  by_cases hlc:l<c
  ·refine eok_of_run ⟨_,s,[],_,w,hK1 hlc,rfl,⟨g,by rw [List.append_nil,hg],rfl,by omega⟩,hsame rfl,?_⟩
   rw [hr,if_neg (by omega)]
   simp [addr_add,Nat.add_mul]
  have hln:l=n:=by omega
  refine eok_of_run ⟨_,s,[],_,w,hK2 hln hlc,rfl,⟨g,by rw [List.append_nil,hg],rfl,Nat.le_refl _⟩,hsame rfl,?_⟩
  rw [hr,if_pos (by omega)]
  have e3:r.toNat - l.toNat=0:=by omega
  have e4:c - l.toNat=0:=by omega
  rw [e3,e4]
 case h_3 =>
  obtain ⟨k2,r,⟨hl0,hr0,hK⟩,hh⟩:=opt_R (d:=0) hE hhi h
  clear h
  subst hl0
  subst hr0
  have hr:=run_slc hu hs hop hR.1 hl (by simpa using hh) (Int.le_refl _) (Int.le_refl _) (by omega) w
  rcases hK with hK | ⟨T,α,en,hw,hlen,hp⟩
  ·refine eok_of_run ⟨_,s,[],_,w,hK,rfl,⟨rfl,rfl⟩,hsame rfl,?_⟩
   rw [hr]
   rfl
  have hK':=pushF_spec hp
  refine eok_of_run ⟨_,_,[(none,0)],.slice none 0 0,w,hK',rfl,⟨(none,0),?_,.inr ⟨rfl,rfl,rfl⟩⟩,?_,?_⟩
  ·rw [Nat.zero_add,List.getElem?_append_right (by rw [hC.rh.len]; exact Nat.le_refl _),hC.rh.len,Nat.sub_self]
   rfl
  ·exact hC.pushG (e':=(none,0)) (w':=w) rfl rfl rfl (Nat.le_refl _) (fun _ _=>rfl) ⟨hw,hlen,.inl ⟨rfl,rfl,rfl⟩⟩ (fun g hg=>by cases hg)
  rw [hr]
  rfl
 case h_4 ad n c =>
  obtain ⟨k2,r,⟨⟨h0,h1,h2⟩,hK⟩,hh⟩:=opt_R hE hhi h
  clear h
  have hr:=run_slc hu hs hop hR.1 hl hh h0 h1 h2 w
  refine eok_of_run ⟨_,s,[],_,w,hK,rfl,⟨rfl,rfl⟩,hsame rfl,?_⟩
  rw [hr]
  split <;> rfl
 case h_5=>exact h.elim
theorem q_slq (hE:EnvR ρ s.env a.tmps) {t e:TypeId} {wd:Nat} {x:Operand} {lo hi:Option Operand} {x':X} {lo' hi':Option X} (hop:o.op = .slice t x lo hi none) (hu:P.underlying t=some (.slice e)) (hs:sizeT P e=some wd)
 (hx:compX x=some x') (hlo:optX lo=some lo') (hhi:optX hi=some hi') (h:evI P w0 (.slq x' lo' hi' wd) s K):QOk P o a ρ s K:=by
 simp only [evI] at h
 obtain ⟨z,hA1,hR⟩:=getC_R hE hx h
 clear h
 obtain ⟨k1,l,h,hl⟩:=opt_R (d:=0) hE hlo hA1
 clear hA1
 have hl:(lo=none∧l=0) ∨ ∃ y,lo=some y∧a.eval y = .int k1 l:=by simpa using hl
 split at h
 case h_1 b n =>
  obtain ⟨k2,r,⟨⟨h0,h1,h2⟩,hK⟩,hh⟩:=opt_R hE hhi h
  clear h
  obtain ⟨e1,hρ,hRv⟩:=hR
  rcases hK with ⟨hK1,hK2,hK3⟩ | hK
  ·rcases hRv with ⟨g,hg,hv,hnc⟩ | ⟨hg,hn,hv⟩
   ·have hr:=fun w=>run_slc hu hs hop hv hl hh h0 h1 (by omega) w
    by_cases hlc:l<e1.2
    ·refine ⟨_,_,hK1 e1.2 (by omega) hlc,⟨g,by rw [at_of_get hρ,hg],rfl,by omega⟩,fun w' => ?_⟩
     rw [hr,if_neg (by omega)]
     simp [addr_add]
    have hln:l=n:=by omega
    refine ⟨_,_,hK2 hln,⟨g,by rw [at_of_get hρ,hg],rfl,Nat.le_refl _⟩,fun w' => ?_⟩
    rw [hr,if_pos (by omega)]
    have e3:r.toNat - l.toNat=0:=by omega
    have e4:e1.2 - l.toNat=0:=by omega
    rw [e3,e4]
    simp
   subst hn
   have hl0:l=0:=by omega
   subst hl0
   have hr0:r=0:=by omega
   subst hr0
   have hr:=fun w=>run_slc hu hs hop hv hl hh (by omega) (by omega) (by omega) w
   refine ⟨_,_,hK3 rfl rfl,⟨rfl,rfl⟩,fun w' => ?_⟩
   rw [hr]
   rfl
  rcases hRv with ⟨g,hg,hv,hnc⟩ | ⟨hg,hn,hv⟩
  ·have hr:=fun w=>run_slc hu hs hop hv hl hh h0 h1 (by omega) w
   refine ⟨_,_,hK (if e1.2=l.toNat then 0 else l.toNat*wd),⟨e1,hρ,.inl ⟨g,hg,rfl,by omega,fun hlt=>if_neg (by omega)⟩⟩,fun w' => ?_⟩
   rw [hr]
   split <;> simp [addr_add]
  subst hn
  have hl0:l=0:=by omega
  subst hl0
  have hr0:r=0:=by omega
  subst hr0
  have hr:=fun w=>run_slc hu hs hop hv hl hh (by omega) (by omega) (by omega) w
  refine ⟨_,_,hK 0,⟨e1,hρ,.inr ⟨hg,rfl,rfl,rfl⟩⟩,fun w' => ?_⟩
  rw [hr]
  rfl
 case h_2 b wd' o' n c =>
  obtain ⟨k2,r,hch,hh⟩:=opt_R hE hhi h
  clear h
  obtain ⟨hw,⟨h0,h1,h2⟩,hK1,hK2⟩:=chk_spec hch
  have hw2:wd'=wd:=by simpa using hw
  subst hw2
  obtain ⟨g,hg,hv,hnc⟩:=hR
  have hr:=fun w=>run_slc hu hs hop hv hl hh h0 h1 (by omega) w
  by_cases hlc:l<c
  ·refine ⟨_,_,hK1 hlc,⟨g,hg,rfl,by omega⟩,fun w' => ?_⟩
   rw [hr,if_neg (by omega)]
   simp [addr_add,Nat.add_mul]
  have hln:l=n:=by omega
  refine ⟨_,_,hK2 hln hlc,⟨g,hg,rfl,Nat.le_refl _⟩,fun w' => ?_⟩
  rw [hr,if_pos (by omega)]
  have e3:r.toNat - l.toNat=0:=by omega
  have e4:c - l.toNat=0:=by omega
  rw [e3,e4]
 case h_3 =>
  obtain ⟨k2,r,⟨hl0,hr0,hK⟩,hh⟩:=opt_R (d:=0) hE hhi h
  clear h
  subst hl0
  subst hr0
  have hr:=fun w=>run_slc hu hs hop hR.1 hl (by simpa using hh) (Int.le_refl _) (Int.le_refl _) (by omega) w
  rcases hK with hK | hK
  ·refine ⟨_,_,hK,⟨rfl,rfl⟩,fun w' => ?_⟩
   rw [hr]
   rfl
  exact hK.elim
 case h_4 ad n c =>
  obtain ⟨k2,r,⟨⟨h0,h1,h2⟩,hK⟩,hh⟩:=opt_R hE hhi h
  clear h
  have hr:=fun w=>run_slc hu hs hop hR.1 hl hh h0 h1 h2 w
  refine ⟨_,_,hK,⟨rfl,rfl⟩,fun w' => ?_⟩
  rw [hr]
  split <;> rfl
 case h_5 b wd' o' n p =>
  obtain ⟨k2,r,hch,hh⟩:=opt_R hE hhi h
  clear h
  obtain ⟨hw,⟨h0,h1,h2⟩,hK⟩:=chk_spec hch
  have hw2:wd'=wd:=by simpa using hw
  subst hw2
  obtain ⟨e1,hρ,hRv⟩:=hR
  rcases hRv with ⟨g,hg,hv,hnc,hp⟩ | ⟨hg,hn,ho,hv⟩
  ·have hr:=fun w=>run_slc hu hs hop hv hl hh h0 h1 (by omega) w
   refine ⟨_,_,hK (if e1.2 - o'=l.toNat then p else p+l.toNat*wd'),⟨e1,hρ,.inl ⟨g,hg,rfl,by omega,fun hlt => ?_⟩⟩,fun w' => ?_⟩
   ·rw [if_neg (by omega),hp (by omega),Nat.add_mul]
   rw [hr,Nat.sub_sub]
   split <;> simp [addr_add]
  subst hn ho
  have hl0:l=0:=by omega
  subst hl0
  have hr0:r=0:=by omega
  subst hr0
  have hr:=fun w=>run_slc hu hs hop hv hl hh (by omega) (by omega) (by omega) w
  refine ⟨_,_,hK 0,⟨e1,hρ,.inr ⟨hg,rfl,rfl,rfl⟩⟩,fun w' => ?_⟩
  rw [hr]
  rfl
 case h_6=>exact h.elim
theorem run_sla {t e:TypeId} {wd n:Nat} (hu:P.underlying t=some (.array n e)) (hs:sizeT P e=some wd) {x:Operand} {lo hi:Option Operand} (hop:o.op = .slice t x lo hi none) {ad:Addr} (he:a.eval x = .pointer (some ad)) {k1 k2:IntKind} {l h:Int}
 (hl:(lo=none∧l=0) ∨ ∃ y,lo=some y∧a.eval y = .int k1 l) (hh:(hi=none∧h=n) ∨ ∃ y,hi=some y∧a.eval y = .int k2 h) (h0:0≤l) (h1:l≤h) (h2:h≤n) (w':World) :
 (execOp a.eval o).run P w' = .ok (.value (.slice (some (if n=l.toNat then ad else ad.add (l.toNat*wd))) (h.toNat - l.toNat) (n - l.toNat))) w':=by
 have g0:0≤h:=by omega
 have g1:l≤(h.toNat:Int):=by omega
 have g2:l.toNat≤h.toNat:=by omega
 rcases hl with ⟨rfl,rfl⟩ | ⟨y,rfl,hy⟩
 ·rcases hh with ⟨rfl,rfl⟩ | ⟨z,rfl,hz⟩
  ·simp [execOp,hop,he,Instr.sliceAt,Instr.sureAddr,Instr.sliceBounds,run_underlying hu,run_sizeT hs]
  simp [execOp,hop,he,hz,Instr.sliceAt,Instr.sureAddr,Instr.sliceBounds,Instr.sliceBound,asIntOf,run_underlying hu,run_sizeT hs,g0,h2]
 rcases hh with ⟨rfl,rfl⟩ | ⟨z,rfl,hz⟩
 ·simp [execOp,hop,he,hy,Instr.sliceAt,Instr.sureAddr,Instr.sliceBounds,Instr.sliceBound,asIntOf,run_underlying hu,run_sizeT hs,h0,h1]
 simp [execOp,hop,he,hy,hz,Instr.sliceAt,Instr.sureAddr,Instr.sliceBounds,Instr.sliceBound,asIntOf,run_underlying hu,run_sizeT hs,g0,h2,h0]
 intro hm
 exact absurd hm (by omega)
theorem q_sla (hE:EnvR ρ s.env a.tmps) {t e:TypeId} {wd n:Nat} {x:Operand} {lo hi:Option Operand} {x':X} {lo' hi':Option X} (hop:o.op = .slice t x lo hi none) (hu:P.underlying t=some (.array n e)) (hs:sizeT P e=some wd)
 (hx:compX x=some x') (hlo:optX lo=some lo') (hhi:optX hi=some hi') (h:evI P w0 (.sla x' lo' hi' wd n) s K):QOk P o a ρ s K:=by
 simp only [evI] at h
 obtain ⟨z,hA1,hR⟩:=getC_R hE hx h
 clear h
 obtain ⟨k1,l,h,hl⟩:=opt_R (d:=0) hE hlo hA1
 clear hA1
 have hl:(lo=none∧l=0) ∨ ∃ y,lo=some y∧a.eval y = .int k1 l:=by simpa using hl
 obtain ⟨k2,r,h,hh⟩:=opt_R hE hhi h
 split at h
 case h_1 b =>
  obtain ⟨⟨⟨h0,h1,h2⟩,h3⟩,hK⟩:=h
  obtain ⟨g,hg,he⟩:=hR
  refine ⟨_,_,hK,⟨g,hg,rfl,by omega⟩,fun w' => ?_⟩
  rw [run_sla hu hs hop he hl hh h0 h1 h2 w',if_neg (by omega)]
  simp [addr_add]
 case h_2 b off =>
  obtain ⟨hw,⟨⟨h0,h1,h2⟩,h3⟩,hK⟩:=chk_spec h
  have hw1:wd=1:=by simpa using hw
  subst hw1
  obtain ⟨g,hg,he⟩:=hR
  refine ⟨_,_,hK,⟨g,hg,rfl,by omega⟩,fun w' => ?_⟩
  rw [run_sla hu hs hop he hl hh h0 h1 h2 w',if_neg (by omega)]
  simp [addr_add]
 case h_3=>exact h.elim
theorem e_sll (hE:EnvR ρ s.env a.tmps) (hC:Core w0 cx ρ s.H w) {t e:TypeId} {wd n:Nat} {x:Operand} {lo hi:Option Operand} {x':X} {hi':Option X} (hop:o.op = .slice t x lo hi none) (hu:P.underlying t=some (.array n e)) (hs:sizeT P e=some wd)
 (hx:compX x=some x') (hlo:optX lo=some none) (hhi:optX hi=some hi') (h:evI P w0 (.sll x' hi' wd n) s K):EOk P w0 cx o a ρ s K w:=by
 simp only [evI] at h
 obtain ⟨z,hA1,hR⟩:=getC_R hE hx h
 clear h
 have hl:(lo=none∧(0:Int)=0) ∨ ∃ y,lo=some y∧a.eval y = .int .i64 0:=by
  cases lo with
  | none=>exact .inl ⟨rfl,rfl⟩
  | some y =>
   simp only [optX] at hlo
   cases hc:compX y with
   | none=>rw [hc] at hlo; cases hlo
   | some q=>rw [hc] at hlo; cases hlo
 obtain ⟨k2,r,h,hh⟩:=opt_R hE hhi hA1
 split at h
 case h_3=>exact h.elim
 case h_2 b off =>
  obtain ⟨hw,⟨⟨h1,h2⟩,h3⟩,hK⟩:=chk_spec h
  have hw1:wd=1:=by simpa using hw
  subst hw1
  obtain ⟨g,hg,he⟩:=hR
  have hrun:(execOp a.eval o).run P w = .ok (.value (.slice (some ⟨g,off+1,none⟩) r.toNat n)) w:=by
   rw [run_sla hu hs hop he hl hh (Int.le_refl _) h1 h2 w,if_neg (by omega)]
   simp [addr_add]
  exact eok_of_run ⟨_,s,[],_,w,hK,rfl,by rw [List.append_nil]; exact ⟨g,hg,by rw [Nat.mul_one],by omega⟩,by rw [List.append_nil]; exact hC,hrun⟩
 case h_1 b =>
  obtain ⟨⟨⟨h1,h2⟩,h3⟩,hK⟩:=h
  obtain ⟨g,hg,he⟩:=hR
  have hrun:(execOp a.eval o).run P w = .ok (.value (.slice (some ⟨g,0,none⟩) r.toNat n)) w:=by
   rw [run_sla hu hs hop he hl hh (Int.le_refl _) h1 h2 w,if_neg (by omega)]
   simp [addr_add]
  rcases hK with hK | hK
  ·exact eok_of_run ⟨_,s,[],_,w,hK,rfl,by rw [List.append_nil]; exact ⟨g,hg,by rw [Nat.zero_mul],by omega⟩,by rw [List.append_nil]; exact hC,hrun⟩
  split at hK
  case h_2=>exact hK.elim
  case h_1 T cs hb =>
   obtain ⟨hw,hcl,hn,α,en,bs,xs,hlen,hxl,hfl,hK⟩:=hK
   obtain ⟨_,hp⟩:=setF_spec hK
   have hK':=pushF_spec hp
   obtain ⟨e1,hρ,g',arr,k1,k2',k3⟩:=hC.rh.get hb
   have hgg:g'=g:=by
    rw [at_of_get hρ,k1] at hg
    exact Option.some.inj hg
   subst hgg
   have hid:(ρ ++ [(some g',n)])[0+(s.H.set b .dead).length]? = some (some g',n):=by rw [Nat.zero_add,List.length_set,← hC.rh.len]; simp
   have hal:arr.size=cs.length:=by rw [k3.length,Array.length_toList]
   have hmove:Core w0 cx (ρ ++ [(some g',n)]) (s.H.set b .dead++[.vec true T en bs wd xs]) w:=by
    refine hC.move hb rfl hρ rfl rfl rfl (Nat.le_refl _) (fun _ _ _=>rfl) ⟨hw,hlen,.inr ⟨g',arr,(0,0),rfl,k2',by rw [hal,hcl],by rw [hxl]; show r.toNat≤n; omega,hn,?_,fun _=>rfl⟩⟩ fun gg hgg => ?_
    ·have hsplit:cs=cs.take (r.toNat*wd)++cs.drop (r.toNat*wd):=(List.take_append_drop _ _).symm
     rw [hsplit] at k3
     obtain ⟨m1,m2,hm,hA1,hA2⟩:=k3.split_
     refine ⟨List.replicate m2.length .any,?_,fun x hx=>List.eq_of_mem_replicate hx⟩
     rw [hm,hfl]
     refine (hA1.mono fun _ _=>CV.R.more _).append ?_
     have hgen:∀ (l:List CV) (vs:List Value),All2 (CV.R ρ) l vs→All2 (CV.R (ρ ++ [(some g',n)])) (List.replicate vs.length .any) vs:=by
      intro l vs hA
      induction hA with
      | nil=>exact .nil
      | cons hx _ ih=>exact .cons hx.one ih
     exact hgen _ _ hA2
    cases hgg
    exact ⟨.inl k1,(hC.rh.ok b _ _ hb hρ).block rfl (.inl k1)⟩
   exact eok_of_run ⟨_,_,_,_,w,hK',rfl,⟨_,hid,.inl ⟨g',rfl,rfl,by show r.toNat≤n; omega⟩⟩,hmove,hrun⟩
theorem e_ala (hC:Core w0 cx ρ s.H w) {t:TypeId} {z:List Value} (hop:o.op = .alloc t) (hz:zeroT P t=some z) (h:evI P w0 (.ala t z) s K):EOk P w0 cx o a ρ s K w:=by
 simp only [evI] at h
 obtain ⟨h1,v,hv,hzr⟩:=zeroT_spec hz
 rcases h with h | ⟨α,e,bs,wd,xs,hwd,hlen,hfl,hxl,h⟩
 ·have h:=pushF_spec (mapF_spec h)
  refine eok_of_run ⟨_,_,_,_,_,h,rfl,R_new hC (cap:=0),hC.cells_new (arr:=v.cells) (by rw [hv]; exact zero_R h1),?_⟩
  simp [execOp,hop,Instr.alloc,hzr,newVar,run_new]
 have h:=pushF_spec h
 obtain ⟨f1,f2,f3,f4⟩:=alloc_facts (w:=w) (.cells v.cells t)
 have hsz:v.cells.size=xs.length*wd:=by
  rw [← Array.length_toList,hv,← flat_length hlen xs,hfl,List.length_map]
 have hCn:Core w0 cx (ρ ++ [(some w.heap.size,xs.length)]) (s.H++[.vec true t e bs wd xs]) (w.alloc (.cells v.cells t)) :=
  hC.push f1 f2 f3 f4 ⟨hwd,hlen,.inr ⟨w.heap.size,v.cells,(0,0),rfl,by rw [f4]; simp,hsz,Nat.le_refl _,hxl,⟨[],by
   rw [List.append_nil,hfl,hv]
   exact (zero_R h1).mono fun _ _=>CV.R.more _,by simp⟩,fun _=>rfl⟩⟩
 refine eok_of_run ⟨_,_,_,_,_,h,rfl,R_new hC (cap:=xs.length),hCn,?_⟩
 simp [execOp,hop,Instr.alloc,hzr,newVar,run_new]
theorem e_s2b (hE:EnvR ρ s.env a.tmps) (hC:Core w0 cx ρ s.H w) {src dst e:TypeId} {x:Operand} {x':X} (hop:o.op = .convert src dst x) (hsrc:P.underlying src=some .string) (hdst:P.underlying dst=some (.slice e)) (he:P.underlying e=some (.int .u8))
 (hx:compX x=some x') (h:evI P w0 (.s2b e x') s K):EOk P w0 cx o a ρ s K w:=by
 simp only [evI] at h
 obtain ⟨b,⟨hsz,hp⟩,hv⟩:=getS_R hE hx h
 have hK:=pushF_spec hp
 have hge:=grownCap_ge w b.size 0 e
 have hle:=grownCap_le_maxLen w b.size 0 e (by simp only [maxLen]; omega)
 have hrun:(execOp a.eval o).run P w = .ok (.value (.slice (some ⟨w.heap.size,0,none⟩) b.size (grownCap w b.size 0 e))) (Lib.bytesWorld w e b):=by
  simp only [execOp,hop,hv,Sem.run_bind,Lib.run_convert_string_bytes w src dst e b hsrc hdst he,Result.andThen_ok]
  rfl
 have hbl:(bytesOf b).length=b.size:=by simp [bytesOf]
 refine eok_of_run ⟨_,_,[(some w.heap.size,grownCap w b.size 0 e)],.slice (some ⟨w.heap.size,0,none⟩) b.size (grownCap w b.size 0 e),Lib.bytesWorld w e b,hK,rfl,⟨(some w.heap.size,grownCap w b.size 0 e),by rw [Nat.zero_add,← hC.rh.len]; simp,.inl ⟨w.heap.size,rfl,by rw [hbl],by rw [hbl]; exact hge⟩⟩,?_,hrun⟩
 have hsz2:=Lib.bytesWorld_size w e b
 refine hC.pushG (e':=(some w.heap.size,grownCap w b.size 0 e)) (w':=Lib.bytesWorld w e b) (k := .vec false e (encI .u8) [] 1 (bytesOf b)) rfl rfl rfl (by omega) (fun j hj=>Lib.bytesWorld_at_old w e b j hj) ⟨by omega,fun _=>rfl,.inr ⟨w.heap.size,Lib.bytesCells w e b,_,rfl,Lib.bytesWorld_at_new w e b,?_,by simpa [bytesOf] using hge,by simpa [maxLen] using hle,⟨List.replicate (grownCap w b.size 0 e - b.size) .any,?_,fun x hx=>List.eq_of_mem_replicate hx⟩,fun h=>by cases h⟩⟩ fun g hg=>by cases hg; exact ⟨Nat.le_refl _,by omega⟩
 ·simp only [Lib.bytesCells,Array.size_append,Array.size_map,Array.size_replicate,Nat.mul_one]
  exact Nat.add_sub_cancel' hge
 simp only [Lib.bytesCells,Array.toList_append,Array.toList_map,Array.toList_replicate]
 refine All2.append ?_ ?_
 ·simp only [bytesOf]
  generalize b.data.toList=l
  induction l with
  | nil=>exact .nil
  | cons x r ih=>exact .cons ⟨rfl,rfl⟩ ih
 generalize grownCap w b.size 0 e - b.size=n
 induction n with
 | zero=>exact .nil
 | succ n ih=>exact .cons rfl ih
theorem flat_encI (k:IntKind):∀ l:List Int,flat (encI k) [] l=l.map fun x=>CV.val (.int k x)
 | []=>rfl
 | x::r=>by
  have:=flat_encI k r
  simp only [flat,List.flatMap_cons,List.map_cons] at this ⊢
  rw [this]
  rfl
theorem b2s_run {H:List Blk} (hC:RH w0 ρ H w) {src dst e:TypeId} {x:Operand} (hop:o.op = .convert src dst x) (hsrc:P.underlying src=some (.slice e)) (hdst:P.underlying dst=some .string) (he:P.underlying e=some (.int .u8))
 {c:CV} (hR:c.R ρ (a.eval x)) (hns:notStr c) {l:List Int} (hs:Go.Vc.src w0 H (encI .u8) [] 1 c l):(execOp a.eval o).run P w = .ok (.value (.string (strOf l))) w:=by
 obtain ⟨news,hA,hL,hF⟩:=src_sound (P:=P) (s:=⟨[],H⟩) hC (fun _=>rfl) hR hs
 have hnews:news=l.map (Value.int .u8):=by
  rw [flat_encI] at hA
  clear hL hF hs
  induction l generalizing news with
  | nil=>cases hA; rfl
  | cons x r ih =>
   cases hA with
   | cons hx hr=>rw [hx.1,ih _ hr]; rfl
 have hF':=hF w rfl
 have hL':=hL w
 cases hv:a.eval x <;> simp only [hv,Builtin.lenOf,run_stuck,reduceCtorEq,Sem.run_pure,Result.ok.injEq] at hL'
 case slice A n cap =>
  obtain ⟨rfl,_⟩:=hL'
  cases A with
  | none =>
   rw [hv] at hF'
   simp only [Builtin.firstCells,Sem.run_pure,Result.ok.injEq] at hF'
   have hn:news=[]:=by have:=congrArg Array.toList hF'.1; simpa using this.symm
   have hl0:l=[]:=by rw [hnews] at hn; simpa using hn
   subst hl0
   simp [execOp,hop,hv,convert,run_underlying hsrc,run_underlying hdst,run_underlying he,Conv.bytesToString,strOf]
  | some ad =>
   rw [hv] at hF'
   simp only [Builtin.firstCells,Nat.mul_one,hnews] at hF'
   have hb:=run_bytesToString (P:=P) w ad l.length cap l hF'
   simp only [execOp,hop,hv,Sem.run_bind,run_convert_bytes_string w src dst e _ _ _ hsrc he hdst,hb,Result.andThen_ok,strOf]
   rfl
 case string b =>
  exfalso
  cases c <;> simp only [CV.R,hv] at hR
  case val x=>obtain ⟨rfl,_⟩:=hR; exact hns
  case ptr=>obtain ⟨_,_,h⟩:=hR; cases h
  case row=>obtain ⟨_,_,h⟩:=hR; cases h
  case sli=>obtain ⟨_,_,h,_⟩:=hR; cases h
  case vec=>obtain ⟨_,_,h⟩:=hR; rcases h with ⟨_,_,h,_⟩ | ⟨_,_,h⟩ <;> cases h
  case clo=>obtain ⟨_,h,_⟩:=hR; cases h
  case ifc=>obtain ⟨_,_,h⟩:=hR; cases h
  case bnd=>obtain ⟨_,_,h⟩:=hR; cases h
  case bnf=>obtain ⟨_,_,h⟩:=hR; cases h
  case kb=>cases hR
  case any=>exact hs
  case mem=>obtain ⟨_,_,_,_,_,_,h⟩:=hR; rcases h with ⟨_,_,h,_⟩ | ⟨_,_,h⟩ <;> cases h
  case mrow=>obtain ⟨_,_,_,_,_,_,_,_,h⟩:=hR; cases h
  case tl=>obtain ⟨_,_,h⟩:=hR; rcases h with ⟨_,_,h,_⟩ | ⟨_,_,_,h⟩ <;> cases h
theorem src_val {α:Type} {H H':List Blk} {e:Enc α} {bs:List Nat} {wd:Nat} {y:Value} {ys:List α} (h:Go.Vc.src w0 H e bs wd (.val y) ys):Go.Vc.src w0 H' e bs wd (.val y) ys:=by
 unfold Go.Vc.src at h ⊢
 split at h <;> simp_all
theorem q_b2s (hE:EnvR ρ s.env a.tmps) (hC:RH w0 ρ s.H w) {src dst e:TypeId} {x:Operand} {x':X} (hop:o.op = .convert src dst x) (hsrc:P.underlying src=some (.slice e)) (hdst:P.underlying dst=some .string) (he:P.underlying e=some (.int .u8))
 (hx:compX x=some x') (h:evI P w0 (.b2s x') s K) :
 ∃ y v,∃ C:World→Prop,K (.o y) s∧y.R ρ v∧C w∧(∀ w',C w'→(execOp a.eval o).run P w' = .ok (.value v) w') ∧
  ∀ ρ' H' w',RH w0 ρ' H' w'→(∃ t,ρ' = ρ ++ t)→(∀ c,x'.get s.env=some (.o (.c c))→c.isV=false→ldv w0 H' c .str (fun b=>b=y∧y.sure=true))→C w':=by
 simp only [evI] at h
 obtain ⟨c,hg,⟨hns,l,hs,hK⟩,hR⟩:=getC_R' hE hx h
 refine ⟨_,_,fun w'=>(execOp a.eval o).run P w' = .ok (.value (.string (strOf l))) w',hK,⟨rfl,rfl⟩,b2s_run hC hop hsrc hdst he hR hns hs,fun w' h=>h,?_⟩
 rintro ρ' H' w' hC' ⟨t,rfl⟩ hk
 cases hv:c.isV with
 | true =>
  have hcn:c.norm.isV=true:=by cases c <;> first | exact hv | cases hv | rfl
  have hR2:=hR.more t
  generalize c.norm=d at *
  cases d <;> first | cases hcn | skip
  exact b2s_run hC' hop hsrc hdst he hR2 hns (src_val hs)
 | false =>
  obtain ⟨hns',l',hs',h1,_⟩:=hk c hg hv
  rcases CV.norm_isV hv with hn | ⟨b,rfl⟩
  ·rw [hn] at hR
   have h2:=b2s_run hC' hop hsrc hdst he (hR.more t) hns' hs'
   have h3:strOf l'=strOf l:=by injection h1 with h1; injection h1 with h1; injection h1
   rw [h2,h3]
  exact absurd hs' (by intro h; exact h)
theorem set_same {H:List Blk} {b:Nat} {k:Blk} (h:H[b]? = some k):H.set b k=H:=by
 apply List.ext_getElem?
 intro i
 by_cases hi:b=i
 ·subst hi
  rw [List.getElem?_set_self (List.getElem?_eq_some_iff.1 h).1,h]
 rw [List.getElem?_set_ne hi]
theorem flat_append {α:Type} {e:Enc α} {bs:List Nat} (xs ys:List α):flat e bs (xs++ys)=flat e bs xs++flat e bs ys:=by simp [flat]
theorem cutC_spec {n:Nat} {d:CV} {k:CV→Prop} {v:Value} (hR:d.R ρ v) (h:cutC n d k) :
 ∃ d' v' m,k d'∧d'.R ρ v'∧(∀ w',(Builtin.lenOf v).run P w' = .ok m w')∧(∀ w',(Builtin.lenOf v').run P w' = .ok (min m n) w') ∧ ∀ wd q w',(Builtin.firstCells wd q v).run P w'=(Builtin.firstCells wd q v').run P w':=by
 unfold cutC at h
 split at h
 ·rename_i b m
  obtain ⟨e,he,hR⟩:=hR
  rcases hR with ⟨g,hg,rfl,hc⟩ | ⟨hg,hm,rfl⟩
  ·exact ⟨_,.slice (some ⟨g,0,none⟩) (min m n) e.2,m,h,⟨e,he,.inl ⟨g,hg,rfl,by omega⟩⟩,fun w'=>rfl,fun w'=>rfl,fun wd q w'=>rfl⟩
  subst hm
  exact ⟨_,.slice none 0 0,0,h,⟨e,he,.inr ⟨hg,by omega,rfl⟩⟩,fun w'=>rfl,fun w'=>by rw [Nat.zero_min]; rfl,fun wd q w'=>rfl⟩
 ·rename_i b wd o m c
  obtain ⟨g,hg,rfl,hc⟩:=hR
  exact ⟨_,.slice (some ⟨g,o*wd,none⟩) (min m n) c,m,h,⟨g,hg,rfl,by omega⟩,fun w'=>rfl,fun w'=>rfl,fun wd q w'=>rfl⟩
 ·rename_i a m c
  obtain ⟨rfl,_⟩:=hR
  exact ⟨_,.slice (some a) (min m n) c,m,h,⟨rfl,rfl⟩,fun w'=>rfl,fun w'=>rfl,fun wd q w'=>rfl⟩
 exact h.elim
theorem e_cpy (hE:EnvR ρ s.env a.tmps) (hC:Core w0 cx ρ s.H w) {t e:TypeId} {x y:Operand} {x' y':X} {wd:Nat} {args:Array Operand} {ts:Array TypeId}
 (hop:o.op = .call { callee := .builtin .copy,args:=args,argTypes:=ts }) (hargs:args.toList=[x,y]) (hts:ts[0]? = some t) (ht:P.underlying t=some (.slice e))
 (hs:sizeT P e=some wd) (hx:compX x=some x') (hy:compX y=some y') (h:evI P w0 (.cpy wd x' y') s K):EOk P w0 cx o a ρ s K w:=by
 simp only [evI] at h
 obtain ⟨c,hA1,hR⟩:=getC_R hE hx h
 clear h
 obtain ⟨d,h,hRd⟩:=getC_R hE hy hA1
 clear hA1
 have hav:args.map a.eval = #[a.eval x,a.eval y]:=by apply Array.toList_inj.1; simp [hargs]
 have hrunop:∀ v' w',(Builtin.copy_ ts o.type #[a.eval x,a.eval y]).run P w = .ok v' w'→(execOp a.eval o).run P w = .ok (.value v') w':=by
  intro v' w' hr
  rw [run_call_builtin hop,hav]
  simp [builtin,hr]
 split at h
 case h_1 b n =>
  split at h
  case h_2=>exact h.elim
  case h_1 α wr T en bs wd' xs hbk =>
   obtain ⟨hck,hn,ys,hsrc,hle,hset⟩:=chk_spec h
   clear h
   simp only [Bool.and_eq_true] at hck
   obtain ⟨hwr,hw⟩:=hck
   have hw2:wd'=wd:=by simpa using hw
   subst hwr hw2
   obtain ⟨_,hK⟩:=setF_spec hset
   obtain ⟨e1,hρ,h0,hlen,h2⟩:=hC.rh.get hbk
   obtain ⟨news,hAn,hL,hF⟩:=src_sound (P:=P) hC.rh hlen hRd hsrc
   have hnl:news.length=ys.length*wd':=by rw [← hAn.length,flat_length hlen]
   obtain ⟨e1',he1,hRv⟩:=hR
   rw [hρ] at he1
   cases he1
   obtain ⟨eo,cap⟩:=e1
   have hgo:∀ (ys':Nat),goInt ys'=Value.int .i64 ys':=fun _=>rfl
   rcases h2 with ⟨h2,hx0,_⟩ | ⟨g',arr,fz,h2,h3,h4,h5,hc,⟨sp,h6,h7⟩,h8⟩
   ·subst hx0
    have hn0:n=0:=by simpa using hn
    subst hn0
    have hy0:ys=[]:=List.length_eq_zero_iff.1 (by omega)
    subst hy0
    have hv:a.eval x = .slice none 0 0:=by
     rcases hRv with ⟨g,hg,_,_⟩ | ⟨_,_,hv⟩
     ·rw [h2] at hg; cases hg
     exact hv
    refine eok_of_run ⟨_,_,[],_,w,hK,rfl,⟨rfl,rfl⟩,?_,hrunop _ _ ?_⟩
    ·rw [List.append_nil]
     simp only [List.nil_append,List.drop_nil]
     rw [set_same hbk]
     exact hC
    have hF':=hF w rfl
    simp only [List.length_nil] at hF' hL
    simp [Builtin.copy_,hts,run_underlying ht,hv,hL,run_sizeT hs,hF']
    rfl
   simp only at h2
   subst h2
   have hfz:=h8 rfl
   subst hfz
   obtain ⟨hv,hnc⟩:a.eval x = .slice (some ⟨g',0,none⟩) n cap∧n≤cap:=by
    rcases hRv with ⟨g,hg,hv,hnc⟩ | ⟨hg,_⟩
    ·cases hg; exact ⟨hv,hnc⟩
    cases hg
   have hF':=hF w rfl
   have hmul:ys.length*wd'≤xs.length*wd':=Nat.mul_le_mul_right _ (by omega)
   have hxl:=flat_length hlen xs
   have hal:xs.length*wd'≤arr.size:=by
    have:=h6.length
    simp only [List.length_append,Array.length_toList] at this
    omega
   have hone:∀ u∈news,u.oneCell'=true:=by
    intro u hu
    obtain ⟨k,hk,rfl⟩:=List.mem_iff_getElem.1 hu
    have hk2:k<(flat en bs ys).length:=by rw [hAn.length]; exact hk
    obtain ⟨u',hu',hcu⟩:=hAn.at_ k _ (List.getElem?_eq_getElem hk2)
    rw [List.getElem?_eq_getElem hk] at hu'
    cases hu'
    exact hcu.one
   have hst:=run_storeCells_at P g' 0 T news 0 arr w h3 (by rw [hnl]; simp only [Nat.zero_add]; omega) hone
   obtain ⟨f1,f2,f3,f4,f5⟩:=setRow_facts (w:=w) g' (arr.toList.take (0+0)++news++arr.toList.drop (0+0+news.length)).toArray
   refine eok_of_run ⟨_,_,[],_,w.setRow g' (arr.toList.take (0+0)++news++arr.toList.drop (0+0+news.length)).toArray,hK,rfl,⟨rfl,rfl⟩,?_,hrunop _ _ ?_⟩
   ·rw [List.append_nil]
    refine hC.set hbk rfl hρ f1 f2 f3 f4 f5 ⟨h0,hlen,.inr ⟨g',_,(0,0),rfl,setRow_heap w g' arr _ T _ h3,?_,?_,hc,⟨sp,?_,h7⟩,fun _=>rfl⟩⟩
    ·simp only [List.size_toArray,List.length_append,List.length_take,List.length_drop,Array.length_toList]
     simp only at h4
     omega
    ·simp only [List.length_append,List.length_drop]
     omega
    simp only [Nat.add_zero,List.take_zero,List.nil_append,Nat.zero_add]
    rw [flat_append,List.append_assoc]
    refine All2.append hAn ?_
    rw [hnl,← flat_drop hlen _ _ (by omega)]
    have:=h6.drop_ (ys.length*wd')
    rwa [List.drop_append_of_le_length (by omega)] at this
   have hmin:Nat.min ys.length n=ys.length:=Nat.min_eq_left hle
   simp [Builtin.copy_,hts,run_underlying ht,hv,hL,run_sizeT hs,hmin,hF',hst,hgo]
 case h_2 b wd1 o' n c' =>
  split at h
  case h_3=>exact h.elim
  case h_2 T cs hbk =>
   obtain ⟨hck,hon,hcut⟩:=chk_spec h
   clear h
   have hw3:wd1=wd:=by simpa using hck
   subst hw3
   obtain ⟨d',vd',m,⟨α,en,bs,ys,hlen,hsrc,hset⟩,hRd',hLm,hLm',hfc⟩:=cutC_spec (P:=P) hRd hcut
   obtain ⟨_,hK⟩:=setF_spec hset
   obtain ⟨e1,hρ,g',arr,h1,h2,h3⟩:=hC.rh.get hbk
   obtain ⟨news,hAn,hL,hF⟩:=src_sound (P:=P) hC.rh hlen hRd' hsrc
   have hyl:ys.length=min m n:=by
    have e1:=hL w
    rw [hLm' w] at e1
    injection e1 with e2 _
    exact e2.symm
   have hnl:news.length=ys.length*wd1:=by rw [← hAn.length,flat_length hlen]
   have hfl:(flat en bs ys).length=ys.length*wd1:=flat_length hlen ys
   obtain ⟨g,hg,hv,hnc⟩:=hR
   obtain ⟨eo,cap⟩:=e1
   have hgo:∀ (ys':Nat),goInt ys'=Value.int .i64 ys':=fun _=>rfl
   simp only at h1
   subst h1
   rw [at_of_get hρ] at hg
   cases hg
   have hF':=hF w rfl
   have hmul:(o'+ys.length)*wd1≤(o'+n)*wd1:=Nat.mul_le_mul_right _ (by omega)
   rw [Nat.add_mul] at hmul
   have hal:cs.length=arr.size:=by
    have:=h3.length
    simpa using this
   have hone:∀ u∈news,u.oneCell'=true:=by
    intro u hu
    obtain ⟨k,hk,rfl⟩:=List.mem_iff_getElem.1 hu
    have hk2:k<(flat en bs ys).length:=by rw [hAn.length]; exact hk
    obtain ⟨u',hu',hcu⟩:=hAn.at_ k _ (List.getElem?_eq_getElem hk2)
    rw [List.getElem?_eq_getElem hk] at hu'
    cases hu'
    exact hcu.one
   have hst:=run_storeCells_at P g' (o'*wd1) T news 0 arr w h2 (by rw [hnl]; simp only [Nat.add_zero]; omega) hone
   obtain ⟨f1,f2,f3,f4,f5⟩:=setRow_facts (w:=w) g' (arr.toList.take (o'*wd1+0)++news++arr.toList.drop (o'*wd1+0+news.length)).toArray
   refine eok_of_run ⟨_,_,[],_,w.setRow g' (arr.toList.take (o'*wd1+0)++news++arr.toList.drop (o'*wd1+0+news.length)).toArray,hK,rfl,⟨rfl,rfl⟩,?_,hrunop _ _ ?_⟩
   ·rw [List.append_nil]
    refine hC.set hbk rfl hρ f1 f2 f3 f4 f5 ⟨g',_,rfl,setRow_heap w g' arr _ T _ h2,?_⟩
    simp only [Nat.add_zero]
    rw [List.append_assoc,hnl]
    exact (h3.take_ _).append (hAn.append (h3.drop_ _))
   have hmin:Nat.min m n=ys.length:=hyl.symm
   simp [Builtin.copy_,hts,run_underlying ht,hv,hLm,run_sizeT hs,hmin,hfc,hF',hst,hgo]
  case h_1 α wr T en bs wd' xs hbk =>
   obtain ⟨hck,hon,hcut⟩:=chk_spec h
   clear h
   simp only [Bool.and_eq_true] at hck
   obtain ⟨hwr,hw,hw1⟩:=hck
   have hw2:wd'=wd:=by simpa using hw
   have hw3:wd1=wd:=by simpa using hw1
   subst hwr hw2 hw3
   obtain ⟨d',vd',m,⟨ys,hsrc,hset⟩,hRd',hLm,hLm',hfc⟩:=cutC_spec (P:=P) hRd hcut
   obtain ⟨_,hK⟩:=setF_spec hset
   obtain ⟨e1,hρ,h0,hlen,h2⟩:=hC.rh.get hbk
   obtain ⟨news,hAn,hL,hF⟩:=src_sound (P:=P) hC.rh hlen hRd' hsrc
   have hyl:ys.length=min m n:=by
    have e1:=hL w
    rw [hLm' w] at e1
    injection e1 with e2 _
    exact e2.symm
   have hnl:news.length=ys.length*wd1:=by rw [← hAn.length,flat_length hlen]
   obtain ⟨g,hg,hv,hnc⟩:=hR
   obtain ⟨eo,cap⟩:=e1
   have hgo:∀ (ys':Nat),goInt ys'=Value.int .i64 ys':=fun _=>rfl
   rcases h2 with ⟨h2,_⟩ | ⟨g',arr,fz,h2,h3,h4,h5,hc,⟨sp,h6,h7⟩,h8⟩
   ·rw [at_of_get hρ,h2] at hg; cases hg
   simp only at h2
   subst h2
   rw [at_of_get hρ] at hg
   cases hg
   have hfz:=h8 rfl
   subst hfz
   have hF':=hF w rfl
   have hmul:(o'+ys.length)*wd1≤xs.length*wd1:=Nat.mul_le_mul_right _ (by omega)
   rw [Nat.add_mul] at hmul
   have hxl:=flat_length hlen xs
   have hal:xs.length*wd1≤arr.size:=by
    have:=h6.length
    simp only [List.length_append,Array.length_toList] at this
    omega
   have hone:∀ u∈news,u.oneCell'=true:=by
    intro u hu
    obtain ⟨k,hk,rfl⟩:=List.mem_iff_getElem.1 hu
    have hk2:k<(flat en bs ys).length:=by rw [hAn.length]; exact hk
    obtain ⟨u',hu',hcu⟩:=hAn.at_ k _ (List.getElem?_eq_getElem hk2)
    rw [List.getElem?_eq_getElem hk] at hu'
    cases hu'
    exact hcu.one
   have hst:=run_storeCells_at P g (o'*wd1) T news 0 arr w h3 (by rw [hnl]; simp only [Nat.add_zero]; omega) hone
   obtain ⟨f1,f2,f3,f4,f5⟩:=setRow_facts (w:=w) g (arr.toList.take (o'*wd1+0)++news++arr.toList.drop (o'*wd1+0+news.length)).toArray
   refine eok_of_run ⟨_,_,[],_,w.setRow g (arr.toList.take (o'*wd1+0)++news++arr.toList.drop (o'*wd1+0+news.length)).toArray,hK,rfl,⟨rfl,rfl⟩,?_,hrunop _ _ ?_⟩
   ·rw [List.append_nil]
    refine hC.set hbk rfl hρ f1 f2 f3 f4 f5 ⟨h0,hlen,.inr ⟨g,_,(0,0),rfl,setRow_heap w g arr _ T _ h3,?_,?_,hc,⟨sp,?_,h7⟩,fun _=>rfl⟩⟩
    ·simp only [List.size_toArray,List.length_append,List.length_take,List.length_drop,Array.length_toList]
     simp only at h4
     omega
    ·simp only [List.length_append,List.length_take,List.length_drop]
     omega
    simp only [Nat.add_zero]
    rw [flat_append,flat_append,List.append_assoc,List.append_assoc,List.append_assoc]
    have t1:flat en bs (xs.take o')=(flat en bs xs++sp).take (o'*wd1):=by
     rw [List.take_append_of_le_length (by omega),flat_take hlen _ _ (by omega)]
    have t2:flat en bs (xs.drop (o'+ys.length))++sp=(flat en bs xs++sp).drop (o'*wd1+news.length):=by
     rw [List.drop_append_of_le_length (by omega),hnl,← Nat.add_mul,flat_drop hlen _ _ (by omega)]
    rw [t1,t2]
    exact (h6.take_ _).append (hAn.append (h6.drop_ _))
   have hmin:Nat.min m n=ys.length:=hyl.symm
   simp [Builtin.copy_,hts,run_underlying ht,hv,hLm,run_sizeT hs,hmin,hfc,hF',hst,hgo]
 all_goals exact h.elim
end
end Go.Vc
end
section
namespace Go.Vc
open Go.RowKit (Below)
section
variable {P:Program} {w0:World} {cx:Cx} {ρ:Ren} {s:S} {K:AV→S→Prop} {a:Act} {o:Oper} {w:World}
theorem map_some {α β:Type} {f:α → β} {x:Option α} {y:β} (h:x.map f=some y):∃ z,x=some z∧f z=y:=by
 cases x with
 | none=>simp at h
 | some z=>exact ⟨z,rfl,by simpa using h⟩
theorem zeroCells_eq (z:Array Value) (n:Nat) (hz:z.size≠0):(Builtin.zeroCells z n).toList=(List.replicate n z.toList).flatten:=by
 unfold Builtin.zeroCells
 exact range_zero rfl hz
theorem e_clr (hE:EnvR ρ s.env a.tmps) (hC:Core w0 cx ρ s.H w) {t e:TypeId} {x:Operand} {x':X} {wd:Nat} {z:List Value} {args:Array Operand} {ts:Array TypeId}
 (hop:o.op = .call { callee := .builtin .clear,args:=args,argTypes:=ts }) (hargs:args.toList=[x]) (hts:ts[0]? = some t) (ht:P.underlying t=some (.slice e))
 (hs:sizeT P e=some wd) (hz:zeroT P e=some z) (hzl:z.length=wd) (hx:compX x=some x') (h:evI P w0 (.clr wd z x') s K):EOk P w0 cx o a ρ s K w:=by
 simp only [evI] at h
 obtain ⟨c,h,hR⟩:=getC_R hE hx h
 have hav:args.map a.eval = #[a.eval x]:=by apply Array.toList_inj.1; simp [hargs]
 have hrunop:∀ v' w',(Builtin.clear_ ts o.type #[a.eval x]).run P w = .ok v' w'→(execOp a.eval o).run P w = .ok (.value v') w':=by
  intro v' w' hr
  rw [run_call_builtin hop,hav]
  simp [builtin,hr]
 split at h
 case h_2=>exact h.elim
 case h_1 b wd1 o' n c' =>
  split at h
  case h_2=>exact h.elim
  case h_1 α wr T en bs wd' xs hbk =>
   obtain ⟨hck,hon,q,hq,hset⟩:=chk_spec h
   clear h
   simp only [Bool.and_eq_true] at hck
   obtain ⟨hwr,hw,hw1⟩:=hck
   have hw2:wd'=wd:=by simpa using hw
   have hw3:wd1=wd:=by simpa using hw1
   subst hwr hw2 hw3
   obtain ⟨_,hK⟩:=setF_spec hset
   obtain ⟨e1,hρ,h0,hlen,h2⟩:=hC.rh.get hbk
   obtain ⟨h1z,zv,hzv,hzr⟩:=zeroT_spec hz
   obtain ⟨g,hg,hv,hnc⟩:=hR
   obtain ⟨eo,cap⟩:=e1
   have hzs:zv.cells.size=wd1:=by rw [← hzl,← hzv]; simp
   rcases h2 with ⟨h2,_⟩ | ⟨g',arr,fz,h2,h3,h4,h5,hc,⟨sp,h6,h7⟩,h8⟩
   ·rw [at_of_get hρ,h2] at hg; cases hg
   simp only at h2
   subst h2
   rw [at_of_get hρ] at hg
   cases hg
   have hfz:=h8 rfl
   subst hfz
   rcases Nat.eq_zero_or_pos n with hn0 | hn0
   ·subst hn0
    refine eok_of_run ⟨_,_,[],_,w,hK,rfl,⟨#[],rfl,.nil⟩,?_,hrunop _ _ ?_⟩
    ·rw [List.append_nil]
     simp only [List.replicate_zero,List.nil_append,Nat.add_zero,List.take_append_drop]
     rw [set_same hbk]
     exact hC
    simp [Builtin.clear_,hts,run_underlying ht,hv]
   have hnews:(Builtin.zeroCells zv.cells n).toList=(List.replicate n z).flatten:=by rw [zeroCells_eq _ _ (by omega),hzv]
   have hAn:All2 (CV.R ρ) (flat en bs (List.replicate n q)) (List.replicate n z).flatten:=by
    have hflat:flat en bs (List.replicate n q)=(List.replicate n (z.map .val)).flatten:=by
     rw [← hq]
     clear hK hset hn0 hnews hon hnc hv
     induction n with
     | zero=>rfl
     | succ n ih=>simp only [flat,List.replicate_succ,List.flatMap_cons,List.flatten_cons] at ih ⊢; rw [ih]
    rw [hflat]
    clear hK hset hn0 hnews hon hnc hv hflat
    induction n with
    | zero=>exact .nil
    | succ n ih=>simp only [List.replicate_succ,List.flatten_cons]; exact (zero_R h1z).append ih
   have hnl:((List.replicate n z).flatten).length=n*wd1:=by simp [hzl]
   have hmul:(o'+n)*wd1≤xs.length*wd1:=Nat.mul_le_mul_right _ (by omega)
   rw [Nat.add_mul] at hmul
   have hxl:=flat_length hlen xs
   have hal:xs.length*wd1≤arr.size:=by
    have:=h6.length
    simp only [List.length_append,Array.length_toList] at this
    omega
   generalize hnews':(List.replicate n z).flatten=news at *
   have hone:∀ u∈news,u.oneCell'=true:=by
    intro u hu
    obtain ⟨k,hk,rfl⟩:=List.mem_iff_getElem.1 hu
    have hk2:k<(flat en bs (List.replicate n q)).length:=by rw [hAn.length]; exact hk
    obtain ⟨u',hu',hcu⟩:=hAn.at_ k _ (List.getElem?_eq_getElem hk2)
    rw [List.getElem?_eq_getElem hk] at hu'
    cases hu'
    exact hcu.one
   have hst:=run_storeCells_at P g (o'*wd1) T news 0 arr w h3 (by rw [hnl]; simp only [Nat.add_zero]; omega) hone
   obtain ⟨f1,f2,f3,f4,f5⟩:=setRow_facts (w:=w) g (arr.toList.take (o'*wd1+0)++news++arr.toList.drop (o'*wd1+0+news.length)).toArray
   refine eok_of_run ⟨_,_,[],_,w.setRow g (arr.toList.take (o'*wd1+0)++news++arr.toList.drop (o'*wd1+0+news.length)).toArray,hK,rfl,⟨#[],rfl,.nil⟩,?_,hrunop _ _ ?_⟩
   ·rw [List.append_nil]
    refine hC.set hbk rfl hρ f1 f2 f3 f4 f5 ⟨h0,hlen,.inr ⟨g,_,(0,0),rfl,setRow_heap w g arr _ T _ h3,?_,?_,hc,⟨sp,?_,h7⟩,fun _=>rfl⟩⟩
    ·simp only [List.size_toArray,List.length_append,List.length_take,List.length_drop,Array.length_toList]
     simp only at h4
     omega
    ·simp only [List.length_append,List.length_take,List.length_drop,List.length_replicate]
     omega
    simp only [Nat.add_zero]
    rw [flat_append,flat_append,List.append_assoc,List.append_assoc,List.append_assoc]
    have t1:flat en bs (xs.take o')=(flat en bs xs++sp).take (o'*wd1):=by
     rw [List.take_append_of_le_length (by omega),flat_take hlen _ _ (by omega)]
    have t2:flat en bs (xs.drop (o'+n))++sp=(flat en bs xs++sp).drop (o'*wd1+news.length):=by
     rw [List.drop_append_of_le_length (by omega),hnl,← Nat.add_mul,flat_drop hlen _ _ (by omega)]
    rw [t1,t2]
    exact (h6.take_ _).append (hAn.append (h6.drop_ _))
   obtain ⟨n,rfl⟩:∃ k,n=k+1:=⟨n - 1,by omega⟩
   simp [Builtin.clear_,hts,run_underlying ht,hv,hzr,hnews,hst]
inductive Serves (P:Program) (w0:World) (cx:Cx) (o:Oper) (a:Act) (ρ:Ren) (s:S) (K:AV→S→Prop) (w:World) (i:I):Prop where
 | q (hq:i.quiet=true) (h:QOk P o a ρ s K)
 | l (x:Operand) (x':X) (t:TypeId) (n:Option Nat) (hi:i = .ld x' n) (hop:o.op = .load t x) (ha:aggT P t=some n) (hx:compX x=some x')
 | s (x:Operand) (x':X) (src dst e:TypeId) (hi:i = .b2s x') (hop:o.op = .convert src dst x) (hsrc:P.underlying src=some (.slice e)) (hdst:P.underlying dst=some .string) (he:P.underlying e=some (.int .u8)) (hx:compX x=some x')
 | e (hq:i.quiet=false) (h:EOk P w0 cx o a ρ s K w)
theorem serves_call (hE:EnvR ρ s.env a.tmps) (hC:Core w0 cx ρ s.H w) {c:Call} {i:I} (hop:o.op = .call c) (hi:compCall P c=some i) (h:evI P w0 i s K):Serves P w0 cx o a ρ s K w i:=by
 obtain ⟨callee,args,ts⟩:=c
 unfold compCall at hi
 cases callee with
 | invoke r m =>
  simp only at hi
  split at hi
  ·rename_i x l hr hx
   cases hi
   exact .e rfl (e_inv hE hC hop hr hx h)
  cases hi
 | value f =>
  cases f with
  | func g =>
   simp only at hi
   split at hi
   ·split at hi
    ·rename_i x ha
     obtain ⟨x',hx,rfl⟩:=map_some hi
     exact .e rfl (e_xcl hE hC hop ha hx h)
    cases hi
   obtain ⟨xs,hx,rfl⟩:=map_some hi
   exact .e rfl (e_call hE hC hop hx h)
  | tmp t =>
   simp only at hi
   obtain ⟨xs,hx,rfl⟩:=map_some hi
   exact .e rfl (e_clc hE hC hop hx h)
  | const v=>simp at hi
  | global g=>simp at hi
 | builtin b =>
  cases b <;> simp only [reduceCtorEq] at hi
  case len =>
   split at hi
   ·rename_i x t ha ht
    split at hi
    ·rename_i hu
     obtain ⟨x',hx,rfl⟩:=map_some hi
     exact .q rfl (q_len hE hop ha ht (.inl ⟨rfl,hu⟩) hx h)
    ·rename_i e hu
     obtain ⟨x',hx,rfl⟩:=map_some hi
     exact .q rfl (q_len hE hop ha ht (.inr ⟨rfl,e,hu⟩) hx h)
    cases hi
   cases hi
  case cap =>
   split at hi
   ·rename_i x t ha ht
    split at hi
    ·rename_i e hu
     obtain ⟨x',hx,rfl⟩:=map_some hi
     exact .q rfl (q_cap hE hop ha ht ⟨e,hu⟩ hx h)
    cases hi
   cases hi
  case min =>
   split at hi
   ·rename_i x l hx
    cases hi
    exact .q rfl (q_mn hE hop hx h)
   cases hi
  case max =>
   split at hi
   ·rename_i x l hx
    cases hi
    exact .q rfl (q_mx hE hop hx h)
   cases hi
  case append =>
   split at hi
   ·rename_i x y t u ha ht
    split at hi
    ·rename_i e d x' y' hu1 hu2 hx hy
     split at hi
     ·rename_i hd
      split at hi
      ·rename_i wd bt z hs hb hz
       split at hi
       ·rename_i hzl
        split at hi
        ·cases hi
         exact .e rfl (e_apx hE hC hop ha ht hu1 hu2 hd hs hb hz hzl hx hy h)
        cases hi
        exact .e rfl (e_app hE hC hop ha ht hu1 hu2 hd hs hb hz hzl hx hy h)
       cases hi
      cases hi
     cases hi
    cases hi
   cases hi
  case copy =>
   split at hi
   ·rename_i x y t l ha ht
    split at hi
    ·rename_i e x' y' ht' hx hy
     obtain ⟨wd,hs,rfl⟩:=map_some hi
     exact .e rfl (e_cpy hE hC hop ha (by rw [← Array.getElem?_toList,ht]; rfl) ht' hs hx hy h)
    cases hi
   cases hi
  case clear =>
   split at hi
   ·rename_i x t ha ht
    split at hi
    ·rename_i e x' ht' hx
     split at hi
     ·rename_i wd z hs hz
      split at hi
      ·rename_i hzl
       cases hi
       exact .e rfl (e_clr hE hC hop ha (by rw [← Array.getElem?_toList,ht]; rfl) ht' hs hz hzl hx h)
      cases hi
     cases hi
    cases hi
   cases hi
theorem serves (hE:EnvR ρ s.env a.tmps) (hC:Core w0 cx ρ s.H w) {i:I} (hi:compI P o=some i) (h:evI P w0 i s K):Serves P w0 cx o a ρ s K w i:=by
 unfold compI at hi
 split at hi
 case h_1 x hop=>obtain ⟨x',hx,rfl⟩:=map_some hi; exact .q rfl (q_mov hE (.inl hop) hx h)
 case h_2 x hop=>obtain ⟨x',hx,rfl⟩:=map_some hi; exact .q rfl (q_mov hE (.inr hop) hx h)
 case h_3 x hop=>obtain ⟨x',hx,rfl⟩:=map_some hi; exact .q rfl (q_nil hE hop hx h)
 case h_4 t x f hop =>
  split at hi
  ·rename_i fs y hu hx
   split at hi
   ·rename_i fd hf
    split at hi
    ·rename_i n hs
     split at hi
     ·cases hi
     rename_i hn
     cases hi
     exact .q rfl (q_ffa hE hop hx hu hf hs hn h)
    cases hi
   cases hi
  cases hi
 case h_5 t x f hop =>
  split at hi
  ·rename_i fs y hu hx
   split at hi
   ·rename_i fd hf
    obtain ⟨n,ha,rfl⟩:=map_some hi
    exact .q rfl (q_fld hE hop hx hu hf ha h)
   cases hi
  cases hi
 case h_6 t x hop =>
  split at hi
  ·rename_i n y ha hx
   cases hi
   exact .l x y t n rfl hop ha hx
  cases hi
 case h_7 t x v hop =>
  split at hi
  ·rename_i n y z hs hx hv
   cases hi
   exact .e rfl (e_st hE hC hop hs hx hv h)
  cases hi
 case h_8 c x y hop =>
  split at hi
  ·rename_i c' x' y' hc hx hy
   cases hi
   exact .q rfl (q_pick hE hop hc hx hy h)
  cases hi
 case h_9 op t x y u hop =>
  split at hi
  ·rename_i x' y' hu hx hy
   split at hi
   ·cases hi
    exact .q rfl (q_beq hE hop hu (.inl ⟨rfl,rfl⟩) hx hy h)
   ·cases hi
    exact .q rfl (q_beq hE hop hu (.inr ⟨rfl,rfl⟩) hx hy h)
   cases hi
  ·rename_i ms x' hu hx hy
   split at hi
   ·cases hi
    exact .q rfl (q_inl hE hop hu (.inl ⟨rfl,rfl⟩) hx hy h)
   ·cases hi
    exact .q rfl (q_inl hE hop hu (.inr ⟨rfl,rfl⟩) hx hy h)
   cases hi
  ·rename_i ms x' k hu hx hy
   split at hi
   ·cases hi
    exact .e rfl (e_ieq hE hC hop (.inl ⟨rfl,rfl⟩) hx hy h)
   ·cases hi
    exact .e rfl (e_ieq hE hC hop (.inr ⟨rfl,rfl⟩) hx hy h)
   cases hi
  ·rename_i el x' hu hx hy
   split at hi
   ·cases hi
    exact .q rfl (q_pnl hE hop hu (.inl ⟨rfl,rfl⟩) hx hy h)
   ·cases hi
    exact .q rfl (q_pnl hE hop hu (.inr ⟨rfl,rfl⟩) hx hy h)
   cases hi
  ·rename_i ke ve x' hu hx hy
   split at hi
   ·cases hi
    exact .q rfl (q_mnl hE hop hu (.inl ⟨rfl,rfl⟩) hx hy h)
   ·cases hi
    exact .q rfl (q_mnl hE hop hu (.inr ⟨rfl,rfl⟩) hx hy h)
   cases hi
  ·rename_i d x' y' hd hu hx hy
   split at hi
   ·cases hi; exact .q rfl (q_bik hE hop hx hy (.inl (by omega)) h)
   ·cases hi; exact .q rfl (q_bik hE hop hx hy (.inl (by omega)) h)
   ·cases hi; exact .q rfl (q_bik hE hop hx hy (.inr (.inl rfl)) h)
   ·cases hi; exact .q rfl (q_bik hE hop hx hy (.inr (.inr rfl)) h)
   cases hi; exact .q rfl (q_bin hE hop hx hy h)
  cases hi
 case h_10 op t x hop=>obtain ⟨x',hx,rfl⟩:=map_some hi; exact .q rfl (q_un hE hop hx h)
 case h_11 src dst x hop =>
  split at hi
  ·rename_i k0 k y hs hd hx
   cases hi
   exact .q rfl (q_cvi hE hop hs hd hx h)
  ·rename_i k0 k y hs hd hx
   cases hi
   exact .q rfl (q_cvf hE hop hs hd hx h)
  ·rename_i k0 k y hs hd hx
   cases hi
   exact .q rfl (q_cvf hE hop hs hd hx h)
  ·rename_i k0 k y hs hd hx
   cases hi
   exact .q rfl (q_cfi hE hop hs hd hx h)
  ·rename_i e y hs hd hx
   split at hi
   ·rename_i he
    cases hi
    exact .e rfl (e_s2b hE hC hop hs hd he hx h)
   cases hi
  ·rename_i e y hs hd hx
   split at hi
   ·rename_i he
    cases hi
    exact .s _ _ _ _ _ rfl hop hs hd he hx
   cases hi
  ·rename_i y hs hd hx
   cases hi
   exact .q rfl (q_str hE hop hs hd hx h)
  cases hi
 case h_12 t x ix hop =>
  split at hi
  ·rename_i e y z hu hx hix
   obtain ⟨wd,hs,rfl⟩:=map_some hi
   exact .q rfl (q_ia hE hop hu hs hx hix h)
  ·rename_i n e y z hu hx hix
   obtain ⟨wd,hs,rfl⟩:=map_some hi
   exact .q rfl (q_iaa hE hop hu hs hx hix h)
  cases hi
 case h_13 t x ix hop =>
  split at hi
  ·rename_i y z hu hx hix
   cases hi
   exact .q rfl (q_si hE hop hu hx hix h)
  ·rename_i len e y z hu hx hix
   split at hi
   ·rename_i ha hz
    cases hi
    exact .q rfl (q_ixa hE hop hu ha hz hx hix h)
   cases hi
  cases hi
 case h_14 t x lo hi' hop =>
  split at hi
  ·rename_i e y l r hu hx hl hr
   obtain ⟨wd,hs,rfl⟩:=map_some hi
   cases l with
   | none=>exact .e rfl (e_slc hE hC hop hu hs hx hl hr h)
   | some l'=>exact .q rfl (q_slq hE hop hu hs hx hl hr h)
  ·rename_i y l r hu hx hl hr
   cases hi
   exact .q rfl (q_sls hE hop hu hx hl hr h)
  ·rename_i n e y l r hu hx hl hr
   obtain ⟨wd,hs,rfl⟩:=map_some hi
   cases l with
   | none=>exact .e rfl (e_sll hE hC hop hu hs hx hl hr h)
   | some l'=>exact .q rfl (q_sla hE hop hu hs hx hl hr h)
  cases hi
 case h_15 t x hop =>
  split at hi
  ·cases hi
  ·rename_i d y hd hu hx
   cases hi
   exact .q rfl (q_mki hE hop hu (fun ms h=>hd ms h) hx h)
  cases hi
 case h_16 g first caps hop =>
  split at hi
  ·rename_i hf
   obtain ⟨xs,hx,rfl⟩:=map_some hi
   exact .q rfl (q_mkf hE hop hf hx h)
  split at hi
  ·rename_i x hf hc
   obtain ⟨x',hx,rfl⟩:=map_some hi
   exact .q rfl (q_mkg hE hop hf hc hx h)
  cases hi
 case h_17 name first caps hop =>
  split at hi
  ·rename_i x hf hc
   obtain ⟨x',hx,rfl⟩:=map_some hi
   exact .q rfl (q_mkm hE hop hf hc hx h)
  cases hi
 case h_18 x ix hop=>obtain ⟨x',hx,rfl⟩:=map_some hi; exact .q rfl (q_ext hE hop hx h)
 case h_19 c hop=>exact serves_call hE hC hop hi h
 case h_20 t hop =>
  split at hi
  ·obtain ⟨z,hz,rfl⟩:=map_some hi; exact .e rfl (e_ala hC hop hz h)
  obtain ⟨z,hz,rfl⟩:=map_some hi; exact .e rfl (e_alc hC hop hz h)
 case h_21 t x hop=>obtain ⟨x',hx,rfl⟩:=map_some hi; exact .e rfl (e_box hE hC hop hx h)
 case h_22 t ps hop =>
  split at hi
  ·rename_i fs z hu hz
   split at hi
   ·rename_i pl hpl
    obtain ⟨parts,hp,rfl⟩:=map_some hi
    exact .q rfl (q_bld_struct hE hop hu hz hpl hp h)
   cases hi
  ·rename_i len e z hu hz
   split at hi
   ·rename_i n hs
    obtain ⟨parts,hp,rfl⟩:=map_some hi
    exact .q rfl (q_bld_array hE hop hu hz hs hp h)
   cases hi
  cases hi
 case h_23 t len ps hop =>
  split at hi
  ·rename_i e hu
   split at hi
   ·rename_i n z hs hz
    split at hi
    ·split at hi
     ·rename_i hc
      cases hi
      obtain ⟨hl0,hps,_⟩:=hc
      subst hl0
      exact .e rfl (e_bs0 hC hop hps hu hs h)
     cases hi
    rename_i hn
    obtain ⟨parts,hp,rfl⟩:=map_some hi
    have h1:n≠0:=fun h=>hn (.inl h)
    have h2:z.length=n:=Classical.byContradiction fun h=>hn (.inr (.inl h))
    have h3:len≠0:=fun h=>hn (.inr (.inr (.inl h)))
    have h4:¬ (len*n>16777216):=fun h=>hn (.inr (.inr (.inr h)))
    exact .e rfl (e_bsl hE hC hop hu hs hz h1 h2 h3 hp (by omega) h)
   cases hi
  cases hi
 case h_24 t l c hop =>
  split at hi
  ·rename_i e x y hu hx hy
   split at hi
   ·rename_i wd bt z hs hb hz
    split at hi
    ·rename_i hzl
     cases hi
     exact .e rfl (e_mks hE hC hop hu hs hb hz hzl hx hy h)
    cases hi
   cases hi
  cases hi
 case h_25=>cases hi
theorem quiet_of (hE:EnvR ρ s.env a.tmps) (hC:Core w0 cx ρ s.H w) {i:I} (hi:compI P o=some i) (hq:i.quiet=true) (h:evI P w0 i s K) :
 ∃ x v,∃ C:World→Prop,K x s∧x.R ρ v∧C w∧(∀ w',C w'→(execOp a.eval o).run P w' = .ok (.value v) w') ∧
  ∀ ρ' H' w',RH w0 ρ' H' w'→(∃ t,ρ' = ρ ++ t)→(∀ y n c z,ldI i=some (y,n)→y.get s.env=some (.o (.c c))→c.isV=false→x = .o z→ldv w0 H' c n (fun b=>b=z∧z.sure=true))→C w':=by
 cases serves hE hC hi h with
 | q _ h =>
  obtain ⟨x,v,hK,hR,hrun⟩:=h
  exact ⟨x,v,fun _=>True,hK,hR,trivial,fun w' _=>hrun w',fun _ _ _ _ _ _=>trivial⟩
 | l x x' t n hi' hop ha hx =>
  subst hi'
  obtain ⟨y,v,C,hK,hR,hCw,hrun,hback⟩:=q_ld hE hC.rh hop ha hx h
  exact ⟨.o y,v,C,hK,hR,hCw,hrun,fun ρ' H' w' hRH ht hk=>hback ρ' H' w' hRH ht fun c hc hv=>hk x' (.ld n) c y rfl hc hv rfl⟩
 | s x x' src dst e hi' hop hs hd he hx =>
  subst hi'
  obtain ⟨y,v,C,hK,hR,hCw,hrun,hback⟩:=q_b2s hE hC.rh hop hs hd he hx h
  exact ⟨.o y,v,C,hK,hR,hCw,hrun,fun ρ' H' w' hRH ht hk=>hback ρ' H' w' hRH ht fun c hc hv=>hk x' .str c y rfl hc hv rfl⟩
 | e hq' _=>rw [hq] at hq'; cases hq'
theorem eok_of (hE:EnvR ρ s.env a.tmps) (hC:Core w0 cx ρ s.H w) {i:I} (hi:compI P o=some i) (h:evI P w0 i s K):EOk P w0 cx o a ρ s K w:=by
 cases serves hE hC hi h with
 | q _ h =>
  obtain ⟨x,v,hK,hR,hrun⟩:=h
  exact eok_of_run ⟨x,s,[],v,w,hK,rfl,by rw [List.append_nil]; exact hR,by rw [List.append_nil]; exact hC,hrun w⟩
 | l x x' t n hi' hop ha hx =>
  subst hi'
  obtain ⟨y,v,C,hK,hR,hCw,hrun,hback⟩:=q_ld hE hC.rh hop ha hx h
  exact eok_of_run ⟨.o y,s,[],v,w,hK,rfl,by rw [List.append_nil]; exact hR,by rw [List.append_nil]; exact hC,hrun w hCw⟩
 | s x x' src dst e hi' hop hs hd he hx =>
  subst hi'
  obtain ⟨y,v,C,hK,hR,hCw,hrun,hback⟩:=q_b2s hE hC.rh hop hs hd he hx h
  exact eok_of_run ⟨.o y,s,[],v,w,hK,rfl,by rw [List.append_nil]; exact hR,by rw [List.append_nil]; exact hC,hrun w hCw⟩
 | e _ h=>exact h
end
end Go.Vc
end
section
namespace Go.Vc
open Go.RowKit (Below)
section
variable {P:Program} {w0:World} {cx:Cx} {N:Nat}
structure Rel (w0:World) (cx:Cx) (N:Nat) (ρ:Ren) (s:S) (a:Act) (w:World):Prop where
 sz:a.tmps.size=N
 df:a.defers=cx.ds
 env:EnvR ρ s.env a.tmps
 core:Core w0 cx ρ s.H w
def okExit:Exit→Bool
 | .normal=>true
 | .exit _=>true
 | .ret=>true
 | .goto _=>true
 | _=>false
def QK (w0:World) (cx:Cx) (N:Nat) (K:Exit→S→Prop) (e:Exit) (a:Act) (w:World):Prop:=okExit e=true ∧ ∃ s ρ,K e s∧Rel w0 cx N ρ s a w
theorem beq_ne {a b:Nat} (h:a≠b):Nat.beq a b=false:=by
 cases hb:Nat.beq a b with
 | false=>rfl
 | true=>exact absurd (Nat.eq_of_beq_eq_true hb) h
theorem put_env {ρ:Ren} {e:Env} {tmps:Array Value} {d:Nat} {x:AV} {v:Value} (hE:EnvR ρ e tmps) (hd:d<tmps.size) (hR:x.R ρ v):EnvR ρ ((d,x)::e) (tmps.setIfInBounds d v):=by
 intro t y hy
 simp only [look] at hy
 by_cases h:d=t
 ·subst h
  simp at hy
  subst hy
  exact ⟨v,by simp [hd],hR⟩
 have hb:Nat.beq d t=false:=beq_ne h
 rw [hb,cond_false] at hy
 obtain ⟨u,h1,h2⟩:=hE t y hy
 exact ⟨u,by rw [Array.getElem?_setIfInBounds_ne h]; exact h1,h2⟩
theorem put_spec {ρ:Ren} {s:S} {a:Act} {w:World} {d:Option Nat} {x:AV} {v:Value} {K:S→Prop} (h:put s d x K) (hsz:a.tmps.size=N) (hdf:a.defers=cx.ds) (hE:EnvR ρ s.env a.tmps) (hC:Core w0 cx ρ s.H w) (hd:∀ k,d=some k→k<N) (hR:x.R ρ v) :
 ∃ s',K s'∧Rel w0 cx N ρ s' (a.put d v) w∧s'.H=s.H ∧ ∀ k,d=some k→look s'.env k=some x:=by
 obtain ⟨e,H⟩:=s
 cases d with
 | none=>exact ⟨_,h,⟨hsz,hdf,hE,hC⟩,rfl,fun k hk=>by cases hk⟩
 | some k=>exact ⟨_,h,⟨by simpa [Act.put] using hsz,hdf,put_env hE (by rw [hsz]; exact hd k rfl) hR,hC⟩,rfl,fun k' hk=>by cases hk; simp [look]⟩
theorem compG_spec {ops:Array Oper} {o:Oper} {g:G} (h:compG P N ops o=some g) :
 compI P o=some g.i∧g.dst=o.dst∧(∀ d,o.dst=some d→d<N)∧((o.guard=none∧g.gd=none) ∨ ∃ j want t,o.guard=some (j,want)∧(ops[j]?).bind (·.dst)=some t∧g.gd=some (t,want)):=by
 unfold compG at h
 split at h
 ·cases h
 rename_i i hi
 split at h
 ·rename_i hd
  have hdN:∀ d,o.dst=some d→d<N:=fun d he=>by rw [he] at hd; exact Nat.le_of_ble_eq_true hd
  split at h
  ·rename_i hg
   cases h
   exact ⟨hi,rfl,hdN,.inl ⟨hg,rfl⟩⟩
  rename_i j want hg
  split at h
  ·rename_i t ht
   cases h
   exact ⟨hi,rfl,hdN,.inr ⟨j,want,t,hg,ht,rfl⟩⟩
  cases h
 cases h
theorem evG_cases {ops:Array Oper} {o:Oper} {g:G} {ρ:Ren} {s:S} {a:Act} {K:S→Prop} (hc:compG P N ops o=some g) (h:evG P w0 g s K) (hE:EnvR ρ s.env a.tmps) :
 (Region.wanted o (yielded ops a.tmps)=true ∧ ∃ e',evI P w0 g.i ⟨e',s.H⟩ (fun x s'=>put s' g.dst x K)∧EnvR ρ e' a.tmps∧(e'=s.env ∨ ∃ t b,e'=(t,.o (.c (.kb b)))::s.env)) ∨
 (Region.wanted o (yielded ops a.tmps)=false ∧ ∃ e',put ⟨e',s.H⟩ g.dst (.t []) K∧EnvR ρ e' a.tmps):=by
 obtain ⟨_,_,_,hg⟩:=compG_spec hc
 unfold evG at h
 rcases hg with ⟨hg,hgd⟩ | ⟨j,want,t,hg,ht,hgd⟩
 ·rw [hgd] at h
  exact .inl ⟨by simp [Region.wanted,hg],s.env,h,hE,.inl rfl⟩
 rw [hgd] at h
 simp only at h
 have hy:∀ v,a.tmps[t]? = some v→yielded ops a.tmps j=(match v with | .bool b=>some b | _=>none):=by
  intro v hv
  simp only [yielded,ht,Option.bind_some,hv]
  cases v <;> rfl
 have hw:Region.wanted o (yielded ops a.tmps)=(yielded ops a.tmps j == some want):=by simp [Region.wanted,hg]
 have hkb:∀ b v,a.tmps[t]? = some v→v = .bool b→EnvR ρ ((t,.o (.c (.kb b)))::s.env) a.tmps:=by
  intro b v hv hb k y hk
  simp only [look] at hk
  by_cases htk:t=k
  ·subst htk
   simp at hk
   subst hk
   exact ⟨v,hv,hb⟩
  have hbq:Nat.beq t k=false:=beq_ne htk
  rw [hbq,cond_false] at hk
  exact hE k y hk
 split at h
 ·rename_i b hlk
  obtain ⟨v,hv,hR⟩:=hE t _ hlk
  have hR:v = .bool b:=hR
  rw [hw,hy v hv,hR]
  split at h
  ·exact .inl ⟨rfl,s.env,h,hE,.inl rfl⟩
  ·exact .inl ⟨rfl,s.env,h,hE,.inl rfl⟩
  ·exact .inr ⟨rfl,s.env,h,hE⟩
  exact .inr ⟨rfl,s.env,h,hE⟩
 ·rename_i b hlk
  obtain ⟨v,hv,hR⟩:=hE t _ hlk
  have hR:v = .bool b:=hR.1
  rw [hw,hy v hv,hR]
  split at h
  ·cases b with
   | true=>exact .inl ⟨rfl,_,h.1 rfl,hkb true v hv hR,.inr ⟨_,_,rfl⟩⟩
   | false=>exact .inr ⟨rfl,_,h.2 rfl,hkb false v hv hR⟩
  cases b with
  | true=>exact .inr ⟨rfl,_,h.1 rfl,hkb true v hv hR⟩
  | false=>exact .inl ⟨rfl,_,h.2 rfl,hkb false v hv hR,.inr ⟨_,_,rfl⟩⟩
 ·rename_i hlk
  obtain ⟨v,hv,ys,hR,hA⟩:=hE t _ hlk
  rw [hw,hy v hv,hR]
  exact .inr ⟨rfl,s.env,h,hE⟩
 exact h.elim
theorem undef_R {ρ:Ren}:(AV.t []).R ρ undef:=⟨#[],rfl,.nil⟩
theorem evGs_sound {ops:Array Oper} {K:Exit→S→Prop}:∀ {l:List Oper} {gs:List G} {s:S} {ρ:Ren} {a:Act} {w:World},compGs P N ops l=some gs→evGs P w0 gs s (K .normal)→Rel w0 cx N ρ s a w→wpList P ops (QK w0 cx N K) l a w
 | [],gs,s,ρ,a,w,hc,h,hR=>by
  simp only [compGs,Option.some.injEq] at hc
  subst hc
  exact ⟨rfl,s,ρ,h,hR⟩
 | o::r,gs,s,ρ,a,w,hc,h,hR=>by
  simp only [compGs] at hc
  cases h1:compG P N ops o with
  | none=>simp [h1] at hc
  | some g =>
   cases h2:compGs P N ops r with
   | none=>simp [h1,h2] at hc
   | some l =>
    simp only [h1,h2,Option.some.injEq] at hc
    subst hc
    rw [evGs_cons] at h
    obtain ⟨hi,hdst,hdN,_⟩:=compG_spec h1
    unfold wpList
    rcases evG_cases h1 h hR.env with ⟨hw,e',h,hE,_⟩ | ⟨hw,e',h,hE⟩
    ·rw [if_pos hw]
     refine .inl (eok_of (s:=⟨e',s.H⟩) (cx:=cx) hE hR.core hi h _ _ fun x s' t v w' hput he hx hC => ?_)
     have hE2:EnvR (ρ ++ t) s'.env a.tmps:=by rw [he]; exact hE.more t
     obtain ⟨s2,hs2,hR2,_⟩:=put_spec hput hR.sz hR.df hE2 hC (fun k hk=>hdN k (by rw [← hdst]; exact hk)) hx
     rw [hdst] at hR2
     exact evGs_sound h2 hs2 hR2
    rw [hw]
    simp only [Bool.false_eq_true,if_false]
    obtain ⟨s2,hs2,hR2,_⟩:=put_spec (v:=undef) h hR.sz hR.df hE hR.core (fun k hk=>hdN k (by rw [← hdst]; exact hk)) undef_R
    rw [hdst] at hR2
    exact evGs_sound h2 hs2 hR2
def Lcond (w0:World) (H:List Blk) (L:List (Nat × CV × LdK × A1)) (i:Nat):Prop :=
 match L.find? (fun p=>Nat.beq p.1 i) with
 | some (_,c,n,a)=>ldv w0 H c n fun b=>b=a∧a.sure=true
 | none=>True
theorem ldI_isLd {i:I} {y:X} {m:LdK} (h:ldI i=some (y,m)):i.isLd=true:=by
 unfold ldI at h
 split at h
 ·rfl
 ·rfl
 cases h
theorem ldI_kb {P:Program} {i:I} {e:Env} {H:List Blk} {K:AV→S→Prop} {y:X} {m:LdK} {b:Bool} (h:ldI i=some (y,m)) (hy:y.get e=some (.o (.c (.kb b)))) (hev:evI P w0 i ⟨e,H⟩ K):False:=by
 unfold ldI at h
 split at h
 ·cases h
  rename_i n
  simp only [evI,getC,hy,CV.norm] at hev
  cases n <;> exact hev
 ·cases h
  simp only [evI,getC,hy,CV.norm] at hev
  obtain ⟨_,l,hs,_⟩:=hev
  exact hs
 cases h
theorem chkL_spec {H:List Blk} {L:List (Nat × CV × LdK × A1)}:∀ {l:List Nat},chkL w0 H l L → ∀ i∈l,Lcond w0 H L i
 | [],_,i,hi=>by cases hi
 | j::r,h,i,hi=>by
  simp only [chkL] at h
  rcases List.mem_cons.1 hi with rfl | hi
  ·exact h.1
  exact chkL_spec h.2 i hi
def LinkE (w0:World) (ρ:Ren) (tk:List Nat) (L:List (Nat × CV × LdK × A1)) (E:List (Nat × (World→Prop))):Prop :=
 ∀ p∈E,∀ ρ' H' w',RH w0 ρ' H' w'→(∃ t,ρ' = ρ ++ t)→(p.1∈tk→Lcond w0 H' L p.1)→p.2 w'
theorem evD_sound {ops:Array Oper} {K:Exit→S→Prop} (hsel:Region.noSelect ops=true):∀ {n:Nat} {listed:Array Bool} {tk:List Nat} {ds:List DG} {L:List (Nat × CV × LdK × A1)} {E:List (Nat × (World→Prop))} {s:S} {ρ:Ren} {a:Act} {w:World},
 planD P N ops n listed tk=some ds→evD P w0 ds L s (K .normal)→Rel w0 cx N ρ s a w→Closed .any ops listed→(∀ p∈E,p.2 w)→(∀ p∈E,listed.getD p.1 false=true)→LinkE w0 ρ tk L E →
 wpAnyE P .any ops (QK w0 cx N K) n listed E a w:=by
 intro n
 have hQ:∀ (o:Oper) (v:Value) (c:List PanicEntry) (a:Act) (w:World),QK w0 cx N K (.panic c) (a.put o.dst v) w→QK w0 cx N K (.panic c) a w:=fun o v c a w h=>by cases h.1
 induction n with
 | zero =>
  intro listed tk ds L E s ρ a w hp h hR hcl hE hEl hLk
  simp only [planD] at hp
  split at hp
  ·rename_i hr
   cases hp
   exact ⟨hr,rfl,s,ρ,h,hR⟩
  cases hp
 | succ n ih =>
  intro listed tk ds L E s ρ a w hp h hR hcl hE hEl hLk
  simp only [planD] at hp
  split at hp
  ·-- one that is taken first
   rename_i i hfind
   have hmem:=List.mem_of_find?_eq_some hfind
   have hqa:=List.find?_some hfind
   split at hp
   ·rename_i g hg
    obtain ⟨ds',hp',rfl⟩:=map_some hp
    cases ho:ops[i]? with
    | none=>simp [ho] at hg
    | some o =>
     have hcg:compG P N ops o=some g:=by simpa [ho] using hg
     obtain ⟨hi,hdst,hdN,_⟩:=compG_spec hcg
     simp only [quietAt,hg,Bool.and_eq_true,Bool.or_eq_true,Bool.not_eq_true'] at hqa
     obtain ⟨⟨hq,hld⟩,hfree⟩:=hqa
     rw [evD_quiet] at h
     have hun:listed.getD i true=false:=(mem_ready.1 hmem).1
     have hunf:listed.getD i false=false:=by
      rcases Nat.lt_or_ge i listed.size with h' | h'
      ·simpa [h'] using hun
      simp [Array.getElem?_eq_none h']
     have hne:∀ p∈E,p.1≠i:=fun p hp he=>by have:=hEl p hp; rw [he,hunf] at this; cases this
     have hlt:i<listed.size:=by
      rcases Nat.lt_or_ge i listed.size with h' | h'
      ·exact h'
      simp [Array.getElem?_eq_none h'] at hun
     have hlisted:∀ (C:World→Prop),∀ p∈(i,C)::E,(listed.setIfInBounds i true).getD p.1 false=true:=by
      intro C p hp
      rcases List.mem_cons.1 hp with rfl | hp
      ·simp [hlt]
      exact getD_set_true (hEl p hp)
     -- what is known of those taken before
     have hkeep:∀ (L':List (Nat × CV × LdK × A1)) (tk':List Nat),(∀ p∈E,p.1∈tk→p.1∈tk')→(∀ p∈E,∀ H',Lcond w0 H' L' p.1→Lcond w0 H' L p.1)→LinkE w0 ρ tk' L' E:=by
      intro L' tk' h1 h2 p hp ρ' H' w' hRH ht hk
      exact hLk p hp ρ' H' w' hRH ht fun hm=>h2 p hp H' (hk (h1 p hp hm))
     have htk:∀ p∈E,p.1∈tk→p.1∈(if g.i.isLd=true then i::tk else tk):=fun p _ hm=>by split <;> simp [hm]
     have hLc:∀ (l:Option (CV × LdK × A1)),∀ p∈E,∀ H',Lcond w0 H' (match l with | some l=>(i,l)::L | none=>L) p.1→Lcond w0 H' L p.1:=by
      intro l p hp H' hk
      cases l with
      | none=>exact hk
      | some l =>
       obtain ⟨c,m,b⟩:=l
       unfold Lcond at hk ⊢
       simp only at hk
       rw [List.find?_cons_of_neg (by simp only; rw [beq_ne (Ne.symm (hne p hp))]; simp)] at hk
       exact hk
     have hkeepE:=fun l=>hkeep _ _ htk (hLc l)
     have hcons:∀ (C:World→Prop) (l:Option (CV × LdK × A1)),(∀ ρ' H' w',RH w0 ρ' H' w'→(∃ t,ρ' = ρ ++ t)→(i∈(if g.i.isLd=true then i::tk else tk)→Lcond w0 H' (match l with | some l=>(i,l)::L | none=>L) i)→C w') →
      LinkE w0 ρ (if g.i.isLd=true then i::tk else tk) (match l with | some l=>(i,l)::L | none=>L) ((i,C)::E):=by
      intro C l hC p hp
      rcases List.mem_cons.1 hp with rfl | hp
      ·exact hC
      exact hkeepE l p hp
     rcases evG_cases hcg h hR.env with ⟨hw,e',h,hE',he'⟩ | ⟨hw,e',h,hE'⟩
     ·obtain ⟨x,v,C,hput,hx,hCw,hrun,hback⟩:=quiet_of (s:=⟨e',s.H⟩) (cx:=cx) hE' hR.core hi hq h
      obtain ⟨s2,hs2,hR2,hH2,hlook⟩:=put_spec hput hR.sz hR.df hE' hR.core (fun k hk=>hdN k (by rw [← hdst]; exact hk)) hx
      rw [hdst] at hR2
      have hy:YieldsIf P ops C o v a := .inl ⟨hw,hrun⟩
      refine wpAnyE_take ho hsel hcl hfree (by simpa using hmem) (hQ o v) hy hCw hE ?_
      refine ih hp' hs2 hR2 (hcl.set hmem) (fun p hp => ?_) (hlisted C) (hcons C _ fun ρ' H' w' hRH ht hk=>hback ρ' H' w' hRH ht fun y m c z hgi hyc hcv hxz => ?_)
      ·rcases List.mem_cons.1 hp with rfl | hp
       ·exact hCw
       exact hE p hp
      -- a load: it was written down
      have hisld:g.i.isLd=true:=ldI_isLd hgi
      have hlk:=hk (by simp [hisld])
      have hds:g.dst.isSome=true:=by rcases hld with h | h <;> first | (rw [hisld] at h; cases h) | exact h
      obtain ⟨d,hd⟩:=Option.isSome_iff_exists.1 hds
      have hyc2:y.get s.env=some (.o (.c c)):=by
       rcases he' with rfl | ⟨t,b,rfl⟩
       ·exact hyc
       cases y with
       | k u=>cases u <;> exact hyc
       | t q =>
        simp only [X.get,look] at hyc ⊢
        by_cases htq:t=q
        ·subst htq
         simp at hyc
         subst hyc
         exact (ldI_kb (e:=(t,AV.o (A1.c (CV.kb b)))::s.env) (b:=b) hgi (by simp [X.get,look]) h).elim
        rw [beq_ne htq,cond_false] at hyc
        exact hyc
      have hl2:=hlook d hd
      rw [hxz] at hl2
      have hldof:ldOf g s s2=some (c,m,z):=by
       unfold ldOf
       rw [hgi,hd]
       simp only [hyc2,hl2]
       cases c <;> first | rfl | cases hcv
      rw [hldof] at hlk
      simp only [Lcond,List.find?_cons,Nat.beq_refl] at hlk
      exact hlk
     obtain ⟨s2,hs2,hR2,hH2,hlook⟩:=put_spec (v:=undef) h hR.sz hR.df hE' hR.core (fun k hk=>hdN k (by rw [← hdst]; exact hk)) undef_R
     rw [hdst] at hR2
     have hy:YieldsIf P ops (fun _=>True) o undef a := .inr ⟨hw,rfl⟩
     refine wpAnyE_take ho hsel hcl hfree (by simpa using hmem) (hQ o undef) hy trivial hE ?_
     refine ih hp' hs2 hR2 (hcl.set hmem) (fun p hp => ?_) (hlisted _) (hcons _ _ fun _ _ _ _ _ _=>trivial)
     rcases List.mem_cons.1 hp with rfl | hp
     ·trivial
     exact hE p hp
   cases hp
  -- one that writes: no other may come up
  rename_i hfind
  split at hp
  ·rename_i hr
   cases hp
   exact wpAnyE_done hr ⟨rfl,s,ρ,h,hR⟩ _
  ·rename_i j hr
   split at hp
   ·rename_i g hg
    obtain ⟨ds',hp',rfl⟩:=map_some hp
    cases ho:ops[j]? with
    | none=>simp [ho] at hg
    | some o =>
     have hcg:compG P N ops o=some g:=by simpa [ho] using hg
     obtain ⟨hi,hdst,hdN,_⟩:=compG_spec hcg
     rw [evD_loud] at h
     have hmem:j∈Region.ready .any ops listed:=by rw [hr]; simp
     have hElj:∀ p∈owed .any ops j E,(listed.setIfInBounds j true).getD p.1 false=true:=fun p hp=>getD_set_true (hEl p (List.mem_filter.1 hp).1)
     have hmtk:∀ p∈owed .any ops j E,p.1∈tk→p.1∈tk.filter fun i => !waitsN .any ops ops.size j i:=fun p hp hm=>List.mem_filter.2 ⟨hm,(List.mem_filter.1 hp).2⟩
     refine wpAnyE_one hr ?_
     unfold wpOp
     rw [ho]
     simp only
     rcases evG_cases hcg h hR.env with ⟨hw,e',h,hE',_⟩ | ⟨hw,e',h,hE'⟩
     ·rw [if_pos hw]
      refine .inl (eok_of (s:=⟨e',s.H⟩) (cx:=cx) hE' hR.core hi h _ _ fun x s' t v w' hput he hx hC => ?_)
      have hE2:EnvR (ρ ++ t) s'.env a.tmps:=by rw [he]; exact hE'.more t
      obtain ⟨s2,⟨hchk,hs2⟩,hR2,hH2,_⟩:=put_spec hput hR.sz hR.df hE2 hC (fun k hk=>hdN k (by rw [← hdst]; exact hk)) hx
      rw [hdst] at hR2
      have hall:=chkL_spec hchk
      have hEw:∀ p∈owed .any ops j E,p.2 w':=fun p hp=>hLk p (List.mem_filter.1 hp).1 (ρ ++ t) s2.H w' hR2.core.rh ⟨t,rfl⟩ fun hm=>hall _ (hmtk p hp hm)
      refine ⟨hEw,ih hp' hs2 hR2 (hcl.set hmem) hEw hElj fun p hp ρ' H' w'' hRH ht hk => ?_⟩
      obtain ⟨t2,ht2⟩:=ht
      exact hLk p (List.mem_filter.1 hp).1 ρ' H' w'' hRH ⟨t++t2,by rw [ht2,List.append_assoc]⟩ fun hm=>hk (hmtk p hp hm)
     rw [hw]
     simp only [Bool.false_eq_true,if_false]
     obtain ⟨s2,⟨hchk,hs2⟩,hR2,hH2,_⟩:=put_spec (v:=undef) h hR.sz hR.df hE' hR.core (fun k hk=>hdN k (by rw [← hdst]; exact hk)) undef_R
     rw [hdst] at hR2
     have hEw:∀ p∈owed .any ops j E,p.2 w:=fun p hp=>hE p (List.mem_filter.1 hp).1
     refine ⟨hEw,ih hp' hs2 hR2 (hcl.set hmem) hEw hElj fun p hp ρ' H' w'' hRH ht hk => ?_⟩
     exact hLk p (List.mem_filter.1 hp).1 ρ' H' w'' hRH ht fun hm=>hk (hmtk p hp hm)
   cases hp
  cases hp
theorem evT_quiet (P:Program) (w0:World) (g:G) (n:Nat) (r:DT) (L:List (Nat × CV × LdK × A1)) (s:S) (K:S→Prop) :
 evT P w0 (.q g n r) L s K=evG P w0 g s fun s'=>evT P w0 r (match ldOf g s s' with | some l=>(n,l)::L | none=>L) s' K:=by
 show (evG P w0 g s fun s'=>match ldOf g s s' with | some l=>evT P w0 r ((n,l)::L) s' K | none=>evT P w0 r L s' K)=_
 congr 1
 funext s'
 cases ldOf g s s' <;> rfl
theorem altsT_spec {f:Nat→Option (G × Nat × List Nat × DT)} {L:List (Nat × CV × LdK × A1)} {s:S} {K:S→Prop}:∀ {js:List Nat} {t:DT},altsT f js=some t→evT P w0 t L s K → ∀ j∈js,∃ x,f j=some x∧evG P w0 x.1 s fun s'=>chkL w0 s'.H x.2.2.1 L∧evT P w0 x.2.2.2 L s' K
 | [],_,_,_,j,hj=>by cases hj
 | [j],t,ht,h,k,hk=>by
  simp only [altsT] at ht
  obtain ⟨x,hx,rfl⟩:=map_some ht
  have:k=j:=by simpa using hk
  subst this
  exact ⟨x,hx,h⟩
 | j::j'::js,t,ht,h,k,hk=>by
  unfold altsT at ht
  cases hf:f j with
  | none=>simp [hf] at ht
  | some x =>
   cases ho:altsT f (j'::js) with
   | none=>simp [hf,ho] at ht
   | some o =>
    simp only [hf,ho,Option.some.injEq] at ht
    subst ht
    obtain ⟨h1,h2⟩:=h
    rcases List.mem_cons.1 hk with rfl | hk
    ·exact ⟨x,hf,h1⟩
    exact altsT_spec ho h2 k hk
theorem evT_sound {ops:Array Oper} {K:Exit→S→Prop} (hsel:Region.noSelect ops=true):∀ {n:Nat} {listed:Array Bool} {tk:List Nat} {ds:DT} {L:List (Nat × CV × LdK × A1)} {E:List (Nat × (World→Prop))} {s:S} {ρ:Ren} {a:Act} {w:World},
 planT P N ops n listed tk=some ds→evT P w0 ds L s (K .normal)→Rel w0 cx N ρ s a w→Closed .any ops listed→(∀ p∈E,p.2 w)→(∀ p∈E,listed.getD p.1 false=true)→LinkE w0 ρ tk L E →
 wpAnyE P .any ops (QK w0 cx N K) n listed E a w:=by
 intro n
 have hQ:∀ (o:Oper) (v:Value) (c:List PanicEntry) (a:Act) (w:World),QK w0 cx N K (.panic c) (a.put o.dst v) w→QK w0 cx N K (.panic c) a w:=fun o v c a w h=>by cases h.1
 induction n with
 | zero =>
  intro listed tk ds L E s ρ a w hp h hR hcl hE hEl hLk
  simp only [planT] at hp
  split at hp
  ·rename_i hr
   cases hp
   exact ⟨hr,rfl,s,ρ,h,hR⟩
  cases hp
 | succ n ih =>
  intro listed tk ds L E s ρ a w hp h hR hcl hE hEl hLk
  simp only [planT] at hp
  split at hp
  ·-- one that is taken first
   rename_i i hfind
   have hmem:=List.mem_of_find?_eq_some hfind
   have hqa:=List.find?_some hfind
   split at hp
   ·rename_i g hg
    obtain ⟨ds',hp',rfl⟩:=map_some hp
    cases ho:ops[i]? with
    | none=>simp [ho] at hg
    | some o =>
     have hcg:compG P N ops o=some g:=by simpa [ho] using hg
     obtain ⟨hi,hdst,hdN,_⟩:=compG_spec hcg
     simp only [quietAt,hg,Bool.and_eq_true,Bool.or_eq_true,Bool.not_eq_true'] at hqa
     obtain ⟨⟨hq,hld⟩,hfree⟩:=hqa
     rw [evT_quiet] at h
     have hun:listed.getD i true=false:=(mem_ready.1 hmem).1
     have hunf:listed.getD i false=false:=by
      rcases Nat.lt_or_ge i listed.size with h' | h'
      ·simpa [h'] using hun
      simp [Array.getElem?_eq_none h']
     have hne:∀ p∈E,p.1≠i:=fun p hp he=>by have:=hEl p hp; rw [he,hunf] at this; cases this
     have hlt:i<listed.size:=by
      rcases Nat.lt_or_ge i listed.size with h' | h'
      ·exact h'
      simp [Array.getElem?_eq_none h'] at hun
     have hlisted:∀ (C:World→Prop),∀ p∈(i,C)::E,(listed.setIfInBounds i true).getD p.1 false=true:=by
      intro C p hp
      rcases List.mem_cons.1 hp with rfl | hp
      ·simp [hlt]
      exact getD_set_true (hEl p hp)
     -- what is known of those taken before
     have hkeep:∀ (L':List (Nat × CV × LdK × A1)) (tk':List Nat),(∀ p∈E,p.1∈tk→p.1∈tk')→(∀ p∈E,∀ H',Lcond w0 H' L' p.1→Lcond w0 H' L p.1)→LinkE w0 ρ tk' L' E:=by
      intro L' tk' h1 h2 p hp ρ' H' w' hRH ht hk
      exact hLk p hp ρ' H' w' hRH ht fun hm=>h2 p hp H' (hk (h1 p hp hm))
     have htk:∀ p∈E,p.1∈tk→p.1∈(if g.i.isLd=true then i::tk else tk):=fun p _ hm=>by split <;> simp [hm]
     have hLc:∀ (l:Option (CV × LdK × A1)),∀ p∈E,∀ H',Lcond w0 H' (match l with | some l=>(i,l)::L | none=>L) p.1→Lcond w0 H' L p.1:=by
      intro l p hp H' hk
      cases l with
      | none=>exact hk
      | some l =>
       obtain ⟨c,m,b⟩:=l
       unfold Lcond at hk ⊢
       simp only at hk
       rw [List.find?_cons_of_neg (by simp only; rw [beq_ne (Ne.symm (hne p hp))]; simp)] at hk
       exact hk
     have hkeepE:=fun l=>hkeep _ _ htk (hLc l)
     have hcons:∀ (C:World→Prop) (l:Option (CV × LdK × A1)),(∀ ρ' H' w',RH w0 ρ' H' w'→(∃ t,ρ' = ρ ++ t)→(i∈(if g.i.isLd=true then i::tk else tk)→Lcond w0 H' (match l with | some l=>(i,l)::L | none=>L) i)→C w') →
      LinkE w0 ρ (if g.i.isLd=true then i::tk else tk) (match l with | some l=>(i,l)::L | none=>L) ((i,C)::E):=by
      intro C l hC p hp
      rcases List.mem_cons.1 hp with rfl | hp
      ·exact hC
      exact hkeepE l p hp
     rcases evG_cases hcg h hR.env with ⟨hw,e',h,hE',he'⟩ | ⟨hw,e',h,hE'⟩
     ·obtain ⟨x,v,C,hput,hx,hCw,hrun,hback⟩:=quiet_of (s:=⟨e',s.H⟩) (cx:=cx) hE' hR.core hi hq h
      obtain ⟨s2,hs2,hR2,hH2,hlook⟩:=put_spec hput hR.sz hR.df hE' hR.core (fun k hk=>hdN k (by rw [← hdst]; exact hk)) hx
      rw [hdst] at hR2
      have hy:YieldsIf P ops C o v a := .inl ⟨hw,hrun⟩
      refine wpAnyE_take ho hsel hcl hfree (by simpa using hmem) (hQ o v) hy hCw hE ?_
      refine ih hp' hs2 hR2 (hcl.set hmem) (fun p hp => ?_) (hlisted C) (hcons C _ fun ρ' H' w' hRH ht hk=>hback ρ' H' w' hRH ht fun y m c z hgi hyc hcv hxz => ?_)
      ·rcases List.mem_cons.1 hp with rfl | hp
       ·exact hCw
       exact hE p hp
      -- a load: it was written down
      have hisld:g.i.isLd=true:=ldI_isLd hgi
      have hlk:=hk (by simp [hisld])
      have hds:g.dst.isSome=true:=by rcases hld with h | h <;> first | (rw [hisld] at h; cases h) | exact h
      obtain ⟨d,hd⟩:=Option.isSome_iff_exists.1 hds
      have hyc2:y.get s.env=some (.o (.c c)):=by
       rcases he' with rfl | ⟨t,b,rfl⟩
       ·exact hyc
       cases y with
       | k u=>cases u <;> exact hyc
       | t q =>
        simp only [X.get,look] at hyc ⊢
        by_cases htq:t=q
        ·subst htq
         simp at hyc
         subst hyc
         exact (ldI_kb (e:=(t,AV.o (A1.c (CV.kb b)))::s.env) (b:=b) hgi (by simp [X.get,look]) h).elim
        rw [beq_ne htq,cond_false] at hyc
        exact hyc
      have hl2:=hlook d hd
      rw [hxz] at hl2
      have hldof:ldOf g s s2=some (c,m,z):=by
       unfold ldOf
       rw [hgi,hd]
       simp only [hyc2,hl2]
       cases c <;> first | rfl | cases hcv
      rw [hldof] at hlk
      simp only [Lcond,List.find?_cons,Nat.beq_refl] at hlk
      exact hlk
     obtain ⟨s2,hs2,hR2,hH2,hlook⟩:=put_spec (v:=undef) h hR.sz hR.df hE' hR.core (fun k hk=>hdN k (by rw [← hdst]; exact hk)) undef_R
     rw [hdst] at hR2
     have hy:YieldsIf P ops (fun _=>True) o undef a := .inr ⟨hw,rfl⟩
     refine wpAnyE_take ho hsel hcl hfree (by simpa using hmem) (hQ o undef) hy trivial hE ?_
     refine ih hp' hs2 hR2 (hcl.set hmem) (fun p hp => ?_) (hlisted _) (hcons _ _ fun _ _ _ _ _ _=>trivial)
     rcases List.mem_cons.1 hp with rfl | hp
     ·trivial
     exact hE p hp
   cases hp
  -- those that write
  rename_i hfind
  by_cases hr0:Region.ready .any ops listed=[]
  ·rw [hr0] at hp
   cases hp
   exact wpAnyE_done hr0 ⟨rfl,s,ρ,h,hR⟩ _
  refine ⟨fun h0=>absurd h0 hr0,fun j hmem => ?_⟩
  obtain ⟨x,hx,h⟩:=altsT_spec hp h j hmem
  split at hx
  ·rename_i g hg
   obtain ⟨ds',hp',rfl⟩:=map_some hx
   simp only at h
   cases ho:ops[j]? with
   | none=>simp [ho] at hg
   | some o =>
    have hcg:compG P N ops o=some g:=by simpa [ho] using hg
    obtain ⟨hi,hdst,hdN,_⟩:=compG_spec hcg
    have hElj:∀ p∈owed .any ops j E,(listed.setIfInBounds j true).getD p.1 false=true:=fun p hp=>getD_set_true (hEl p (List.mem_filter.1 hp).1)
    have hmtk:∀ p∈owed .any ops j E,p.1∈tk→p.1∈tk.filter fun i => !waitsN .any ops ops.size j i:=fun p hp hm=>List.mem_filter.2 ⟨hm,(List.mem_filter.1 hp).2⟩
    unfold wpOp
    rw [ho]
    simp only
    rcases evG_cases hcg h hR.env with ⟨hw,e',h,hE',_⟩ | ⟨hw,e',h,hE'⟩
    ·rw [if_pos hw]
     refine .inl (eok_of (s:=⟨e',s.H⟩) (cx:=cx) hE' hR.core hi h _ _ fun x s' t v w' hput he hx hC => ?_)
     have hE2:EnvR (ρ ++ t) s'.env a.tmps:=by rw [he]; exact hE'.more t
     obtain ⟨s2,⟨hchk,hs2⟩,hR2,hH2,_⟩:=put_spec hput hR.sz hR.df hE2 hC (fun k hk=>hdN k (by rw [← hdst]; exact hk)) hx
     rw [hdst] at hR2
     have hall:=chkL_spec hchk
     have hEw:∀ p∈owed .any ops j E,p.2 w':=fun p hp=>hLk p (List.mem_filter.1 hp).1 (ρ ++ t) s2.H w' hR2.core.rh ⟨t,rfl⟩ fun hm=>hall _ (hmtk p hp hm)
     refine ⟨hEw,ih hp' hs2 hR2 (hcl.set hmem) hEw hElj fun p hp ρ' H' w'' hRH ht hk => ?_⟩
     obtain ⟨t2,ht2⟩:=ht
     exact hLk p (List.mem_filter.1 hp).1 ρ' H' w'' hRH ⟨t++t2,by rw [ht2,List.append_assoc]⟩ fun hm=>hk (hmtk p hp hm)
    rw [hw]
    simp only [Bool.false_eq_true,if_false]
    obtain ⟨s2,⟨hchk,hs2⟩,hR2,hH2,_⟩:=put_spec (v:=undef) h hR.sz hR.df hE' hR.core (fun k hk=>hdN k (by rw [← hdst]; exact hk)) undef_R
    rw [hdst] at hR2
    have hEw:∀ p∈owed .any ops j E,p.2 w:=fun p hp=>hE p (List.mem_filter.1 hp).1
    refine ⟨hEw,ih hp' hs2 hR2 (hcl.set hmem) hEw hElj fun p hp ρ' H' w'' hRH ht hk => ?_⟩
    exact hLk p (List.mem_filter.1 hp).1 ρ' H' w'' hRH ht fun hm=>hk (hmtk p hp hm)
  cases hx
end
end Go.Vc
end
section
namespace Go.Vc
open Go.RowKit (Below)
section
variable {P:Program} {w0:World} {cx:Cx} {N:Nat}
theorem embH_spec {σ:List Nat} {H:List Blk}:∀ {H0:List Blk} {is:List Nat},embH σ H H0 is→H0.length=is.length∧(∀ i∈is,i<H.length) ∧ ∀ (b:Nat) (k:Blk),H0[b]? = some k→k.live=true → ∃ i,is[b]? = some i∧H[i]? = some (k.ren σ)∧(k.ren σ).live=true
 | [],[],_=>⟨rfl,by simp,fun b k h=>by simp at h⟩
 | [],_::_,h=>h.elim
 | k::r,[],h=>by cases k <;> exact h.elim
 | k::r,i::is,h=>by
  cases hk:k.live with
  | false =>
   have hd:k = .dead:=by cases k <;> first | rfl | cases hk
   subst hd
   obtain ⟨hi,h⟩:=h
   obtain ⟨h1,h2,h3⟩:=embH_spec h
   refine ⟨by simp [h1],fun j hj => ?_,fun b k' hb hl => ?_⟩
   ·rcases List.mem_cons.1 hj with rfl | hj
    ·exact hi
    exact h2 j hj
   cases b with
   | zero=>simp at hb; subst hb; cases hl
   | succ b=>simpa using h3 b k' (by simpa using hb) hl
  | true =>
   have h':H[i]? = some (k.ren σ)∧(k.ren σ).live=true∧embH σ H r is:=by cases k <;> first | exact h | cases hk
   obtain ⟨hi,hl0,h⟩:=h'
   obtain ⟨h1,h2,h3⟩:=embH_spec h
   refine ⟨by simp [h1],fun j hj => ?_,fun b k' hb hl => ?_⟩
   ·rcases List.mem_cons.1 hj with rfl | hj
    ·exact (List.getElem?_eq_some_iff.1 hi).1
    exact h2 j hj
   cases b with
   | zero=>simp at hb; subst hb; exact ⟨i,rfl,hi,hl0⟩
   | succ b=>simpa using h3 b k' (by simpa using hb) hl
theorem nodupB_spec:∀ {l:List Nat},nodupB l=true→l.Nodup
 | [],_=>List.nodup_nil
 | x::r,h=>by
  simp only [nodupB,Bool.and_eq_true,Bool.not_eq_true'] at h
  refine List.nodup_cons.2 ⟨fun hx => ?_,nodupB_spec h.2⟩
  have:r.any (Nat.beq x)=true:=List.any_eq_true.2 ⟨x,hx,by simp⟩
  rw [this] at h
  cases h.1
theorem liveIds_mem:∀ {H0:List Blk} {is:List Nat} {b:Nat} {k:Blk} {i:Nat},H0[b]? = some k→k.live=true→is[b]? = some i→i∈liveIds H0 is
 | [],_,b,_,_,h,_,_=>by simp at h
 | k0::r,[],b,_,_,_,_,h=>by simp at h
 | k0::r,j::is,0,k,i,h,hl,hi=>by
  simp at h hi
  subst h
  subst hi
  cases k0 <;> first | (cases hl; done) | simp [liveIds]
 | k0::r,j::is,b+1,k,i,h,hl,hi=>by
  have:=liveIds_mem (H0:=r) (is:=is) (b:=b) (k:=k) (i:=i) (by simpa using h) hl (by simpa using hi)
  cases k0 <;> simp [liveIds,this]
theorem liveIds_inj:∀ {H0:List Blk} {is:List Nat},(liveIds H0 is).Nodup → ∀ {b b':Nat} {k k':Blk} {i:Nat},H0[b]? = some k→H0[b']? = some k'→k.live=true→k'.live=true→is[b]? = some i→is[b']? = some i→b=b'
 | [],_,_,b,b',_,_,_,h,_,_,_,_,_=>by simp at h
 | k0::r,[],_,b,b',_,_,_,_,_,_,_,h,_=>by simp at h
 | k0::r,j::is,hn,b,b',k,k',i,h1,h2,l1,l2,i1,i2=>by
  cases b with
  | zero =>
   cases b' with
   | zero=>rfl
   | succ b' =>
    exfalso
    simp at h1 i1
    subst h1
    subst i1
    have hm:=liveIds_mem (H0:=r) (is:=is) (by simpa using h2) l2 (by simpa using i2)
    have hn':(j::liveIds r is).Nodup:=by cases k0 <;> first | (cases l1; done) | exact hn
    exact (List.nodup_cons.1 hn').1 hm
  | succ b =>
   cases b' with
   | zero =>
    exfalso
    simp at h2 i2
    subst h2
    subst i2
    have hm:=liveIds_mem (H0:=r) (is:=is) (by simpa using h1) l1 (by simpa using i1)
    have hn':(j::liveIds r is).Nodup:=by cases k0 <;> first | (cases l2; done) | exact hn
    exact (List.nodup_cons.1 hn').1 hm
   | succ b' =>
    have hn':(liveIds r is).Nodup:=by cases k0 <;> first | exact hn | exact (List.nodup_cons.1 hn).2
    have:=liveIds_inj (H0:=r) (is:=is) hn' (b:=b) (b':=b') (k:=k) (k':=k') (i:=i) (by simpa using h1) (by simpa using h2) l1 l2 (by simpa using i1) (by simpa using i2)
    omega
theorem EmbH.core {m:Nat} {σ:List Nat} {H0 H:List Blk} {ρ:Ren} {w:World} (h:EmbH m σ H0 H) (hm:cx.ρe.length=m) (hC:Core w0 cx ρ H w):Core w0 cx (ρ.sub σ) H0 w:=by
 obtain ⟨hσ,hH,hn⟩:=h
 obtain ⟨h1,h2,h3⟩:=embH_spec hH
 have hlen:(ρ.sub σ).length=H0.length:=by rw [h1]; simp [Ren.sub]
 have himg:∀ g,image (ρ.sub σ) H0 g→image ρ H g:=by
  rintro g ⟨b,k,hb,hl,hg⟩
  obtain ⟨i,hi,hHi,hl'⟩:=h3 b k hb hl
  have hilt:i < ρ.length:=by rw [hC.rh.len]; exact (List.getElem?_eq_some_iff.1 hHi).1
  exact ⟨i,_,hHi,hl',by rw [← Ren.sub_own hilt hi]; exact hg⟩
 refine ⟨⟨hlen,fun b k e hb he => ?_,fun b b' k k' g hb hb' l l' a a' => ?_,fun g hg=>hC.rh.lo g (himg g hg),hC.rh.base⟩,hC.fr,fun g hg=>hC.own g (himg g hg),?_⟩
 ·cases hl:k.live with
  | false=>cases k <;> first | trivial | cases hl
  | true =>
   obtain ⟨i,hi,hHi,hl'⟩:=h3 b k hb hl
   rw [Ren.sub_get hi] at he
   cases he
   have hilt:i < ρ.length:=by rw [hC.rh.len]; exact (List.getElem?_eq_some_iff.1 hHi).1
   have hok:=hC.rh.ok i _ (ρ.getD i (none,0)) hHi (by rw [List.getD_eq_getElem?_getD,List.getElem?_eq_getElem hilt]; rfl)
   exact hok.of_ren hl hl'
 ·obtain ⟨i,hi,hHi,hli⟩:=h3 b k hb l
  obtain ⟨i',hi',hHi',hli'⟩:=h3 b' k' hb' l'
  rw [Ren.sub_own (by rw [hC.rh.len]; exact (List.getElem?_eq_some_iff.1 hHi).1) hi] at a
  rw [Ren.sub_own (by rw [hC.rh.len]; exact (List.getElem?_eq_some_iff.1 hHi').1) hi'] at a'
  have:=hC.rh.inj i i' _ _ g hHi hHi' hli hli' a a'
  subst this
  exact liveIds_inj (nodupB_spec hn) hb hb' l l' hi hi'
 obtain ⟨u,hu⟩:=hC.pre
 refine ⟨(ρ.sub σ).drop m,?_⟩
 have htake:(ρ.sub σ).take m=cx.ρe:=by
  unfold Ren.sub
  rw [← List.map_take,hσ]
  apply List.ext_getElem?
  intro i
  rw [List.getElem?_map]
  rcases Nat.lt_or_ge i m with hi | hi
  ·have hi2:i<cx.ρe.length:=by omega
   rw [List.getElem?_range hi]
   simp only [Option.map_some]
   rw [List.getElem?_eq_getElem hi2,hu,List.getD_eq_getElem?_getD,List.getElem?_append_left hi2,List.getElem?_eq_getElem hi2]
   rfl
  rw [List.getElem?_eq_none (by simpa using hi),List.getElem?_eq_none (by omega)]
  rfl
 rw [← htake,List.take_append_drop]
theorem embE_spec {σ:List Nat} {e:Env}:∀ {e0:Env},embE σ e e0 → ∀ t x,look e0 t=some x→look e t=some (x.ren σ)
 | [],_,t,x,h=>by cases h
 | (k,y)::r,h,t,x,hx=>by
  simp only [look] at hx
  by_cases hk:k=t
  ·subst hk
   simp at hx
   subst hx
   exact h.1
  rw [beq_ne hk,cond_false] at hx
  exact embE_spec h.2 t x hx
theorem EmbS.rel {m:Nat} {s0 s:S} {ρ:Ren} {a:Act} {w:World} (h:EmbS m s0 s) (hm:cx.ρe.length=m) (hR:Rel w0 cx N ρ s a w):∃ ρ0,Rel w0 cx N ρ0 s0 a w:=by
 obtain ⟨σ,hH,hE⟩:=h
 refine ⟨ρ.sub σ,hR.sz,hR.df,fun t x hx => ?_,hH.core hm hR.core⟩
 obtain ⟨v,h1,h2⟩:=hR.env t _ (embE_spec hE t x hx)
 exact ⟨v,h1,AV.R.of_ren h2⟩
theorem wp_loop_ix {c:Code} {Q:Exit→Act→World→Prop} (I:Nat→Act→World→Prop) (round:∀ n a w,I n a w→c.wp P (Exit.then (fun a' w' => ∃ n',n'<n∧I n' a' w') Q) a w) {n:Nat} {a:Act} {w:World} (h0:I n a w):(Code.loop c).wp P Q a w:=by
 intro b k cs
 have key:∀ n a w,I n a w → ∃ e a' w',Q e a' w'∧Arrives P (lone (b.at a (.code c :: .inLoop c::k)) cs w) b k cs e a' w':=by
  intro n
  induction n using Nat.strongRecOn with
  | _ n ih =>
   intro a w hI
   obtain ⟨e,a₁,w₁,hq,harr⟩:=round n a w hI b (.inLoop c::k) cs
   cases e with
   | normal =>
    obtain ⟨n',hlt,hI₁⟩:=hq
    obtain ⟨e₂,a₂,w₂,hq₂,harr₂⟩:=ih n' hlt a₁ w₁ hI₁
    exact ⟨e₂,a₂,w₂,hq₂,.of_steps (Steps.trans harr (.one step_inLoop)) harr₂⟩
   | exit id=>exact ⟨_,a₁,w₁,hq,.pass (x := .inLoop c) rfl (fun _ _ => .inl (by simp)) harr⟩
   | goto l=>exact ⟨_,a₁,w₁,hq,.pass (x := .inLoop c) rfl (fun _ _ => .inl (by simp)) harr⟩
   | ret=>exact ⟨_,a₁,w₁,hq,.pass (x := .inLoop c) rfl (fun _ _ => .inl (by simp)) harr⟩
   | panic ch=>exact ⟨_,a₁,w₁,hq,.pass (x := .inLoop c) rfl (fun _ _ => .inl (by simp)) harr⟩
   | outgrown=>exact ⟨_,a₁,w₁,hq,.pass (x := .inLoop c) rfl (fun _ _ => .inl (by simp)) harr⟩
 obtain ⟨e,a',w',hq,harr⟩:=key _ a w h0
 exact ⟨e,a',w',hq,.of_steps (.one step_loop) harr⟩
theorem evC_sound:∀ (c:Code) (ic:IC) (_:compC P N c=some ic) (K:Exit→S→Prop) (s:S) (ρ:Ren) (a:Act) (w:World),evC P w0 cx.ρe.length ic s K→Rel w0 cx N ρ s a w→c.wp P (QK w0 cx N K) a w
 | .skip,ic,hc,K,s,ρ,a,w,h,hR=>by
  simp only [compC,Option.some.injEq] at hc
  subst hc
  exact wp_skip ⟨rfl,s,ρ,h,hR⟩
 | .region id ops draw,ic,hc,K,s,ρ,a,w,h,hR=>by
  simp only [compC,compReg] at hc
  cases draw with
  | false =>
   simp only [Bool.false_eq_true,if_false] at hc
   obtain ⟨gs,hg,rfl⟩:=map_some hc
   exact wp_region_list (evGs_sound hg h hR)
  | true =>
   simp only [if_true] at hc
   split at hc
   ·rename_i hm
    simp only [Bool.and_eq_true] at hm
    refine wp_region_E hm.1 ?_
    have hR':Rel w0 cx N ρ s a { w with drawn:=w.drawn+1 }:=⟨hR.sz,hR.df,hR.env,hR.core.same rfl rfl rfl rfl⟩
    split at hc
    rotate_left
    ·obtain ⟨ds,hd,rfl⟩:=map_some hc
     exact evT_sound hm.2 hd h hR' (Closed.init _) (by simp) (by simp) (by intro p hp; cases hp)
    rename_i ds hd
    cases hc
    exact evD_sound hm.2 hd h hR' (Closed.init _) (by simp) (by simp) (by intro p hp; cases hp)
   cases hc
 | .seq x y,ic,hc,K,s,ρ,a,w,h,hR=>by
  simp only [compC] at hc
  cases h1:compC P N x with
  | none=>simp [h1] at hc
  | some ix =>
   cases h2:compC P N y with
   | none=>simp [h1,h2] at hc
   | some iy =>
    simp only [h1,h2,Option.some.injEq] at hc
    have hseq:∀ (K2:Exit→S→Prop),(∀ s ρ a w,K2 .normal s→Rel w0 cx N ρ s a w→y.wp P (QK w0 cx N K) a w)→(∀ e s,e ≠ .normal→K2 e s→K e s)→evC P w0 cx.ρe.length ix s K2→(Code.seq x y).wp P (QK w0 cx N K) a w:=by
     intro K2 hn he hx
     refine wp_seq (wp_mono (evC_sound x ix h1 K2 s ρ a w hx hR) fun e a' w' hq => ?_)
     obtain ⟨hok,s',ρ',hK2,hR'⟩:=hq
     cases e with
     | normal=>exact hn s' ρ' a' w' hK2 hR'
     | _=>first | exact ⟨rfl,s',ρ',he _ _ (by simp) hK2,hR'⟩ | cases hok
    have hdirect:evC P w0 cx.ρe.length ix s (evThen (evC P w0 cx.ρe.length iy) K)→(Code.seq x y).wp P (QK w0 cx N K) a w:=by
     intro h
     refine hseq _ (fun s' ρ' a' w' h' hR'=>evC_sound y iy h2 K s' ρ' a' w' h' hR') (fun e s' hne h' => ?_) h
     cases e <;> first | exact absurd rfl hne | exact h'
    split at hc
    ·subst hc
     rcases h with h | ⟨ι,st,h,hall⟩
     ·exact hdirect h
     refine hseq _ (fun s' ρ' a' w' h' hR' => ?_) (fun e s' hne h' => ?_) h
     ·obtain ⟨j,hj⟩:=h'
      obtain ⟨ρ0,hR0⟩:=hj.rel rfl hR'
      exact evC_sound y iy h2 K _ ρ0 a' w' (hall j) hR0
     cases e <;> first | exact absurd rfl hne | exact h'
    subst hc
    exact hdirect h
 | .cond t x y,ic,hc,K,s,ρ,a,w,h,hR=>by
  simp only [compC] at hc
  cases h0:compX t with
  | none=>simp [h0] at hc
  | some t' =>
   cases h1:compC P N x with
   | none=>simp [h0,h1] at hc
   | some ix =>
    cases h2:compC P N y with
    | none=>simp [h0,h1,h2] at hc
    | some iy =>
     simp only [h0,h1,h2,Option.some.injEq] at hc
     subst hc
     obtain ⟨b,hb,ht,hf⟩:=getBr_R hR.env h0 h
     refine wp_cond_split hb (fun hbt => ?_) (fun hbf => ?_)
     ·exact evC_sound x ix h1 K s ρ a w (ht hbt) hR
     exact evC_sound y iy h2 K s ρ a w (hf hbf) hR
 | .block id x,ic,hc,K,s,ρ,a,w,h,hR=>by
  simp only [compC] at hc
  obtain ⟨ix,hx,rfl⟩:=map_some hc
  refine wp_block (wp_mono (evC_sound x ix hx _ s ρ a w h hR) fun e a' w' hq => ?_)
  obtain ⟨hok,s',ρ',hK,hR'⟩:=hq
  cases e with
  | exit id' =>
   simp only [Exit.inBlock]
   change (bif Nat.beq id' id then K .normal s' else K (.exit id') s') at hK
   by_cases hid:id'=id
   ·subst hid
    rw [if_pos rfl]
    simp only [Nat.beq_refl,cond_true] at hK
    exact ⟨rfl,s',ρ',hK,hR'⟩
   rw [if_neg hid]
   rw [beq_ne hid,cond_false] at hK
   exact ⟨rfl,s',ρ',hK,hR'⟩
  | _=>first | exact ⟨rfl,s',ρ',hK,hR'⟩ | cases hok
 | .loop x,ic,hc,K,s,ρ,a,w,h,hR=>by
  simp only [compC] at hc
  obtain ⟨ix,hx,rfl⟩:=map_some hc
  obtain ⟨ι,st,μ,⟨j0,hj0⟩,hround⟩:=h
  obtain ⟨ρ0,hR0⟩:=hj0.rel rfl hR
  refine wp_loop_ix (fun n a w => ∃ j ρ,μ j=n∧Rel w0 cx N ρ (st j) a w) (fun n a w hI => ?_) ⟨j0,ρ0,rfl,hR0⟩
  obtain ⟨j,ρ1,rfl,hR1⟩:=hI
  refine wp_mono (evC_sound x ix hx _ (st j) ρ1 a w (hround j) hR1) fun e a' w' hq => ?_
  obtain ⟨hok,s',ρ',hK,hR'⟩:=hq
  cases e with
  | normal =>
   obtain ⟨j',hj',hlt⟩:=hK
   obtain ⟨ρ2,hR2⟩:=hj'.rel rfl hR'
   exact ⟨μ j',hlt,j',ρ2,rfl,hR2⟩
  | _=>first | exact ⟨rfl,s',ρ',hK,hR'⟩ | cases hok
 | .exit id,ic,hc,K,s,ρ,a,w,h,hR=>by
  simp only [compC,Option.some.injEq] at hc
  subst hc
  exact wp_exit ⟨rfl,s,ρ,h,hR⟩
 | .ret,ic,hc,K,s,ρ,a,w,h,hR=>by
  simp only [compC,Option.some.injEq] at hc
  subst hc
  exact wp_ret ⟨rfl,s,ρ,h,hR⟩
 | .rangeFunc ..,ic,hc,K,s,ρ,a,w,h,hR=>by simp [compC] at hc
 | .scope _,ic,hc,K,s,ρ,a,w,h,hR=>by simp [compC] at hc
 | .label _,ic,hc,K,s,ρ,a,w,h,hR=>by
  simp only [compC,Option.some.injEq] at hc
  subst hc
  exact wp_label ⟨rfl,s,ρ,h,hR⟩
 | .goto l,ic,hc,K,s,ρ,a,w,h,hR=>by
  simp only [compC,Option.some.injEq] at hc
  subst hc
  exact wp_goto ⟨rfl,s,ρ,h,hR⟩
 | .refuse _,ic,hc,K,s,ρ,a,w,h,hR=>by simp [compC] at hc
theorem compB_sound (c:Code) (ic:IC) (hc:compB P N c=some ic) (K:Exit→S→Prop) (s:S) (ρ:Ren) (a:Act) (w:World) (h:evC P w0 cx.ρe.length ic s K) (hR:Rel w0 cx N ρ s a w):c.wp P (QK w0 cx N K) a w:=by
 cases c with
 | scope c =>
  simp only [compB] at hc
  split at hc
  ·rename_i l hl
   split at hc
   ·rename_i r hr
    split at hc
    ·rename_i x y hx hy
     cases hc
     refine wp_scope_jumps l (fun a w => ∃ s ρ,evC P w0 cx.ρe.length y s (evNog K)∧Rel w0 cx N ρ s a w) (fun _ _=>0) hr (wp_mono (evC_sound c x hx (evJ l (evC P w0 cx.ρe.length y) K) s ρ a w h hR) fun e a' w' hq => ?_) (fun a w hJ => ?_)
     ·obtain ⟨hok,s',ρ',hK,hR'⟩:=hq
      cases e with
      | goto l' =>
       change (bif Nat.beq l' l then evC P w0 cx.ρe.length y s' (evNog K) else False) at hK
       by_cases hid:l'=l
       ·subst hid
        rw [Nat.beq_refl,cond_true] at hK
        exact ⟨rfl,s',ρ',hK,hR'⟩
       rw [beq_ne hid,cond_false] at hK
       exact hK.elim
      | _=>exact ⟨hok,s',ρ',hK,hR'⟩
     obtain ⟨s1,ρ1,h1,hR1⟩:=hJ
     refine wp_mono (evC_sound r y hy (evNog K) s1 ρ1 a w h1 hR1) fun e a' w' hq => ?_
     obtain ⟨hok,s',ρ',hK,hR'⟩:=hq
     cases e with
     | goto l'=>exact (show False from hK).elim
     | _=>exact ⟨hok,s',ρ',hK,hR'⟩
    cases hc
   cases hc
  cases hc
 | _=>exact evC_sound _ ic hc K s ρ a w h hR
end
end Go.Vc
end
section
namespace Go.Vc
open Go.RowKit (Below)
section
variable {P:Program} {w0:World}
theorem envF_spec:∀ {args:List A1} {n:Nat} {k:Env→Prop},envF n args k → ∃ e,k e ∧ ∀ t x,look e t=some x → ∃ a,x = .o a∧n≤t∧args[t - n]? = some a
 | [],n,k,h=>⟨[],h,fun t x hx=>by cases hx⟩
 | y::r,n,k,h=>by
  obtain ⟨e,hk,he⟩:=envF_spec (args:=r) h
  refine ⟨_,hk,fun t x hx => ?_⟩
  simp only [look] at hx
  by_cases hnt:n=t
  ·subst hnt
   simp at hx
   exact ⟨y,hx.symm,Nat.le_refl _,by simp⟩
  rw [beq_ne hnt,cond_false] at hx
  obtain ⟨a,ha,hle,hg⟩:=he t x hx
  refine ⟨a,ha,by omega,?_⟩
  have:t - n=(t - (n+1))+1:=by omega
  rw [this]
  simpa using hg
theorem run_mapM_l {α β:Type} (f:α → Sem β) (w:World):∀ (xs:List α) (ys:List β),All2 (fun x y=>(f x).run P w = .ok y w) xs ys→(xs.mapM f).run P w = .ok ys w
 | [],_,h=>by cases h; simp
 | x::r,_,h=>by
  cases h with
  | cons h1 h2=>simp [h1,run_mapM_l f w r _ h2]
theorem run_mapM {α β:Type} (f:α → Sem β) (xs:Array α) (w:World) (ys:List β) (h:All2 (fun x y=>(f x).run P w = .ok y w) xs.toList ys):(xs.mapM f).run P w = .ok ys.toArray w:=by
 rw [Array.mapM_eq_mapM_toList]
 rw [map_eq_pure_bind,Sem.run_bind,run_mapM_l f w _ _ h]
 rfl
def resRun (tmps:Array Value):ResultVar→Sem Value
 | .tmp t=>pure (tmps.getD t undef)
 | .cell a t=>do loadVar t (← asAddr (tmps.getD a undef))
theorem results_eq (fn:Func) (tmps:Array Value):results fn tmps=(do let vs ← fn.results.mapM (resRun tmps); pure (if h:vs.size=1 then vs[0] else .tuple vs)):=by
 unfold results
 congr 2
theorem resF_spec {ρ:Ren} {s:S} {a:Act} {w:World} (hE:EnvR ρ s.env a.tmps) (hC:RH w0 ρ s.H w):∀ {l:List ResultVar} {rs:List IR} {k:List A1→Prop},compRes P l=some rs→resF w0 s rs k →
 ∃ xs vs,k xs∧All2 (A1.R ρ) xs vs∧All2 (fun r v=>(resRun a.tmps r).run P w = .ok v w) l vs
 | [],rs,k,hc,h=>by
  simp only [compRes,Option.some.injEq] at hc
  subst hc
  exact ⟨[],[],h,.nil,.nil⟩
 | .tmp t::r,rs,k,hc,h=>by
  simp only [compRes] at hc
  obtain ⟨l,hl,rfl⟩:=map_some hc
  simp only [resF] at h
  obtain ⟨y,h,hy⟩:=get1_R (o := .tmp t) (x := .t t) hE rfl h
  obtain ⟨xs,vs,hk,hA,hB⟩:=resF_spec hE hC hl h
  exact ⟨_,_,hk,.cons hy hA,.cons (by rfl) hB⟩
 | .cell b t::r,rs,k,hc,h=>by
  simp only [compRes] at hc
  cases ha:aggT P t with
  | none=>simp [ha] at hc
  | some n =>
   cases hl:compRes P r with
   | none=>simp [ha,hl] at hc
   | some l =>
    simp only [ha,hl,Option.some.injEq] at hc
    subst hc
    simp only [resF] at h
    obtain ⟨c,h,hR⟩:=getC_R (o := .tmp b) (x := .t b) hE rfl h
    obtain ⟨ad,y,us,he,h,hAu,hlu,hcell,_,hn1,hn2⟩:=ld1_sound hC h hR
    obtain ⟨xs,vs,hk,hA,hB⟩:=resF_spec hE hC hl h
    have he:a.tmps.getD b undef = .pointer (some ad):=he
    rcases aggT_spec ha with ⟨rfl,hag⟩ | ⟨m,rfl,hsz,hag⟩
    ·obtain ⟨z,rfl⟩:=hn1 rfl
     simp only [A1.cells] at hAu
     obtain ⟨u,rfl,hzu⟩:∃ u,us=[u]∧z.R ρ u:=by cases hAu with | cons hz hr=>cases hr; exact ⟨_,rfl,hz⟩
     have h0:=hcell 0 u rfl
     have h1:ad.add 0=ad:=rfl
     rw [h1] at h0
     exact ⟨_,u::vs,hk,.cons hzu hA,.cons (by simp [resRun,he,asAddr,loadVar,hag,h0]) hB⟩
    obtain ⟨cs,rfl⟩:=hn2 m rfl
    have hlc:=run_loadCells_list (P:=P) (w:=w) ad us (fun j v hv=>hcell j v hv)
    simp only [Option.getD_some] at hlu
    rw [hlu] at hlc
    exact ⟨_,.agg us.toArray::vs,hk,.cons ⟨us.toArray,rfl,by simpa [A1.cells] using hAu⟩ hA,.cons (by simp [resRun,he,asAddr,loadVar,hag,run_sizeT hsz,hlc]) hB⟩
theorem results_spec {ρ:Ren} {s:S} {a:Act} {w:World} {fn:Func} {rs:List IR} {k:List A1→Prop} (hE:EnvR ρ s.env a.tmps) (hC:RH w0 ρ s.H w) (hc:compRes P fn.results.toList=some rs) (h:resF w0 s rs k) :
 ∃ xs v,k xs∧(results fn a.tmps).run P w = .ok v w∧(resV xs).R ρ v:=by
 obtain ⟨xs,vs,hk,hA,hB⟩:=resF_spec hE hC hc h
 have hm:=run_mapM (P:=P) (resRun a.tmps) fn.results w vs hB
 refine ⟨xs,if h:vs.toArray.size=1 then vs.toArray[0] else .tuple vs.toArray,hk,?_,?_⟩
 ·rw [results_eq,Sem.run_bind,hm]
  simp
 cases hA with
 | nil=>exact ⟨#[],rfl,.nil⟩
 | cons h1 h2 =>
  cases h2 with
  | nil=>exact h1
  | cons h2 h3=>exact ⟨_,rfl,.cons h1 (.cons h2 h3)⟩
theorem callsA_of_ev {f:FuncId} {F:IFn} {args:List A1} {H:List Blk} {R:AV→List Blk→Prop} (hc:compF P f=some F) (h:evF P w0 F args H R):CallsA P w0 f args H R:=by
 unfold compF at hc
 cases hf:P.funcs[f]? with
 | none=>simp [hf] at hc
 | some fn =>
  cases hb:fn.body with
  | none=>simp [hf,hb] at hc
  | some c =>
   simp only [hf,hb] at hc
   split at hc
   ·cases hc
   rename_i hnm
   cases hcc:compB P fn.ntmps c with
   | none=>simp [hcc] at hc
   | some ic =>
    cases hcr:compRes P fn.results.toList with
    | none=>simp [hcc,hcr] at hc
    | some rs =>
     simp only [hcc,hcr] at hc
     split at hc
     ·rename_i hnt
      cases hc
      obtain ⟨hlen,h⟩:=chk_spec h
      have hlen:args.length=fn.params.size+fn.nfree:=Nat.eq_of_beq_eq_true hlen
      obtain ⟨e,h,he⟩:=envF_spec h
      refine ⟨by simp [hf,hb]; simpa using hnm,fun ρ w vs hRH hA=>calls_of_wp hf hb ?_⟩
      have hvl:vs.length=args.length:=hA.length.symm
      have hm:H.length = ρ.length:=hRH.len.symm
      rw [hm] at h
      have hR0:Rel w0 ⟨w,image ρ H,ρ,[]⟩ fn.ntmps ρ ⟨e,H⟩ { tmps:=vs.toArray++Array.replicate (fn.ntmps - vs.toArray.size) undef,defers:=[] } w:=by
       refine ⟨?_,rfl,fun t x hx => ?_,⟨hRH,FrameP.refl _ _,fun g hg => .inl hg,⟨[],by simp⟩⟩⟩
       ·simp
        omega
       obtain ⟨a,rfl,_,ha⟩:=he t x hx
       obtain ⟨v,hv,hav⟩:=hA.at_ _ _ ha
       refine ⟨v,?_,hav⟩
       have hv:vs[t]? = some v:=by simpa using hv
       have htl:=(List.getElem?_eq_some_iff.1 hv).1
       rw [Array.getElem?_append_left (by simpa using htl)]
       simpa using hv
      refine wp_mono (compB_sound (cx:=⟨w,image ρ H,ρ,[]⟩) c ic hcc _ _ ρ _ w h hR0) fun ex a' w' hq => ?_
      obtain ⟨hok,s',ρ',hK,hR⟩:=hq
      have key:(resF w0 s' rs fun l=>Fin ρ.length R (resV l) s'.H)→bodyPost P fn (fun en w' => ∃ r H' ρ' v,R r H'∧en = .returned v∧AV.R ρ' r v∧RH w0 ρ' H' w'∧(∃ t,ρ' = ρ ++ t)∧FrameP w (image ρ H) w' ∧ ∀ g,image ρ' H' g→image ρ H g∨w.heap.size≤g) .ret a' w':=by
       intro hres
       obtain ⟨xs,v,hfin,hrun,hxv⟩:=results_spec hR.env hR.core.rh hcr hres
       refine ⟨hR.df,v,hrun,?_⟩
       rcases hfin with hfin | ⟨σ,r0,H0,hemb,hr,hfin⟩
       ·exact ⟨_,_,ρ',v,hfin,rfl,hxv,hR.core.rh,hR.core.pre,hR.core.fr,hR.core.own⟩
       have hcore:=EmbH.core (cx:=⟨w,image ρ H,ρ,[]⟩) hemb rfl hR.core
       rw [hr] at hxv
       exact ⟨_,_,_,v,hfin,rfl,AV.R.of_ren hxv,hcore.rh,hcore.pre,hcore.fr,hcore.own⟩
      cases ex with
      | normal=>exact key hK
      | ret=>exact key hK
      | exit id=>exact hK.elim
      | goto l=>exact hK.elim
      | _=>cases hok
     cases hc
theorem CallsA.mono {f:FuncId} {args:List A1} {H:List Blk} {R R':AV→List Blk→Prop} (h:CallsA P w0 f args H R) (hr:∀ r H',R r H'→R' r H'):CallsA P w0 f args H R' :=
 ⟨h.cal,fun ρ w vs hRH hA=>(h.out ρ w vs hRH hA).mono fun _e _w' ⟨r,H',ρ',v,hR,rest⟩=>⟨r,H',ρ',v,hr _ _ hR,rest⟩⟩
end
end Go.Vc
end
section
namespace Go.Vc
open Go.RowKit (Below)
section
variable {P:Program} {w0:World}
def putAll:List Nat→List Blk→List Blk→List Blk
 | [],ks,H=>H++ks
 | i::is,k::ks,H=>putAll is ks (H.set i k)
 | _::_,[],H=>H
def more:Nat→Nat→List Nat
 | _,0=>[]
 | k,n+1=>k::more (k+1) n
def widen (σ:List Nat) (H H0:List Blk):List Nat := σ ++ more H.length (H0.length - σ.length)
theorem more_length:∀ {n k:Nat},(more k n).length=n
 | 0,_=>rfl
 | n+1,k=>by simp [more,more_length]
theorem more_get:∀ {n k i:Nat},i<n→(more k n)[i]? = some (k+i)
 | n+1,k,0,_=>rfl
 | n+1,k,i+1,h=>by
  simp only [more,List.getElem?_cons_succ]
  rw [more_get (by omega)]
  congr 1
  omega
theorem putAll_length:∀ {σ:List Nat} {ks H:List Blk},σ.length≤ks.length→(putAll σ ks H).length=H.length+(ks.length - σ.length)
 | [],ks,H,_=>by simp [putAll]
 | i::is,k::ks,H,h=>by
  simp only [putAll]
  rw [putAll_length (by simpa using h)]
  simp
theorem putAll_out:∀ {σ:List Nat} {ks H:List Blk} {b:Nat},σ.length≤ks.length→b ∉ σ → b<H.length→(putAll σ ks H)[b]? = H[b]?
 | [],ks,H,b,_,_,hb=>by simp [putAll,List.getElem?_append_left hb]
 | i::is,k::ks,H,b,h,hn,hb=>by
  simp only [putAll]
  rw [putAll_out (by simpa using h) (fun hm=>hn (by simp [hm])) (by simpa using hb)]
  rw [List.getElem?_set_ne (fun he=>hn (by simp [he]))]
theorem putAll_in:∀ {σ:List Nat} {ks H:List Blk} {b j:Nat},σ.length≤ks.length → σ.Nodup→(∀ i ∈ σ,i<H.length) → σ[j]? = some b→(putAll σ ks H)[b]? = ks[j]?
 | [],ks,H,b,j,_,_,_,hj=>by simp at hj
 | i::is,k::ks,H,b,j,h,hn,hlt,hj=>by
  simp only [putAll]
  obtain ⟨hn1,hn2⟩:=List.nodup_cons.1 hn
  cases j with
  | zero =>
   simp at hj
   subst hj
   have hi:=hlt i (by simp)
   rw [putAll_out (by simpa using h) hn1 (by simpa using hi)]
   simp [hi]
  | succ j =>
   rw [putAll_in (by simpa using h) hn2 (fun i' hi'=>by simpa using hlt i' (by simp [hi'])) (by simpa using hj)]
   simp
theorem putAll_new:∀ {σ:List Nat} {ks H:List Blk} {j:Nat},σ.length≤ks.length→(putAll σ ks H)[H.length+j]? = ks[σ.length+j]?
 | [],ks,H,j,_=>by
  simp only [putAll,List.length_nil,Nat.zero_add]
  rw [List.getElem?_append_right (by omega),Nat.add_sub_cancel_left]
 | i::is,k::ks,H,j,h=>by
  simp only [putAll]
  have:=putAll_new (σ := is) (ks:=ks) (H:=H.set i k) (j:=j) (by simpa using h)
  simp only [List.length_set] at this
  rw [this]
  have:(i::is).length+j=(is.length+j)+1:=by simp; omega
  rw [this]
  simp
theorem liveIds_sub:∀ {H0:List Blk} {is:List Nat},(liveIds H0 is).Sublist is
 | [],is=>by simp [liveIds]
 | k::r,[]=>by cases k <;> simp [liveIds]
 | k::r,i::is=>by
  have:=liveIds_sub (H0:=r) (is:=is)
  cases k <;> simp [liveIds,this,List.Sublist.cons]
theorem nodupB_of:∀ {l:List Nat},l.Nodup→nodupB l=true
 | [],_=>rfl
 | x::r,h=>by
  obtain ⟨h1,h2⟩:=List.nodup_cons.1 h
  simp only [nodupB,nodupB_of h2,Bool.and_true,Bool.not_eq_true']
  cases ha:r.any (Nat.beq x) with
  | false=>rfl
  | true =>
   obtain ⟨y,hy,hxy⟩:=List.any_eq_true.1 ha
   have:=Nat.eq_of_beq_eq_true hxy
   subst this
   exact absurd hy h1
theorem live_of_ren {σ:List Nat} {k:Blk} (h:(k.ren σ).live=true):k.live=true:=by cases k <;> first | exact h | rfl
theorem CallsA.lift {f:FuncId} {args0 args:List A1} {H0 H:List Blk} {R0 R:AV→List Blk→Prop} (σ:List Nat) (hσn:nodupB σ = true) (hemb:embH σ H H0 σ) (hargs:args0.map (A1.ren σ)=args) (h:CallsA P w0 f args0 H0 R0)
 (hR:∀ r0 H0',R0 r0 H0'→R (r0.ren (widen σ H H0')) (putAll σ (H0'.map (Blk.ren (widen σ H H0'))) H)):CallsA P w0 f args H R:=by
 subst hargs
 have hnd:=nodupB_spec hσn
 obtain ⟨hlen0,hσlt,hget0⟩:=embH_spec hemb
 refine ⟨h.cal,fun ρ w vs hRH hA => ?_⟩
 have hE:EmbH 0 σ H0 H:=⟨by simp,hemb,nodupB_of (hnd.sublist liveIds_sub)⟩
 have hC0:Core w0 ⟨w,image ρ H,[],[]⟩ ρ H w:=⟨hRH,FrameP.refl _ _,fun g hg => .inl hg,⟨ρ,rfl⟩⟩
 have hC1:=EmbH.core hE rfl hC0
 refine (h.out (ρ.sub σ) w vs hC1.rh ((All2.of_map_left hA).mono fun _ _=>A1.R.of_ren)).mono fun e w' he => ?_
 obtain ⟨r0,H0',ρ0',v,hR0,rfl,hv,hRH',⟨t,rfl⟩,hfr,himg⟩:=he
 have hsub:∀ i,i ∈ σ → i < ρ.length:=fun i hi=>by rw [hRH.len]; exact hσlt i hi
 have hlen':H0'.length = σ.length+t.length:=by rw [← hRH'.len]; simp [Ren.sub]
 have hext:H0'.length - σ.length=t.length:=by omega
 have hρs:(ρ ++ t).sub (widen σ H H0') = ρ.sub σ ++ t:=by
  apply List.ext_getElem?
  intro i
  unfold Ren.sub widen
  rw [hext,List.map_append]
  rcases Nat.lt_or_ge i σ.length with hi | hi
  ·rw [List.getElem?_append_left (by simpa using hi),List.getElem?_append_left (by simpa using hi),List.getElem?_map,List.getElem?_map]
   rw [List.getElem?_eq_getElem hi]
   simp only [Option.map_some,List.getD_eq_getElem?_getD]
   rw [List.getElem?_append_left (hsub _ (List.getElem_mem hi))]
  rw [List.getElem?_append_right (by simpa using hi),List.getElem?_append_right (by simpa using hi),List.getElem?_map]
  simp only [List.length_map]
  rcases Nat.lt_or_ge (i - σ.length) t.length with hj | hj
  ·rw [more_get hj]
   simp only [Option.map_some,List.getD_eq_getElem?_getD]
   rw [List.getElem?_append_right (by rw [hRH.len]; omega),hRH.len,Nat.add_sub_cancel_left,List.getElem?_eq_getElem hj]
   rfl
  rw [List.getElem?_eq_none (by rw [more_length]; exact hj),List.getElem?_eq_none hj]
  rfl
 have hwlt:∀ i∈widen σ H H0',i<(ρ ++ t).length:=by
  intro i hi
  unfold widen at hi
  rw [hext] at hi
  rcases List.mem_append.1 hi with hi | hi
  ·have:=hsub i hi
   simp
   omega
  obtain ⟨j,hj,rfl⟩:=List.mem_iff_getElem.1 hi
  have hjt:j<t.length:=by rwa [more_length] at hj
  have:=more_get (k:=H.length) hjt
  rw [List.getElem?_eq_getElem hj] at this
  simp only [Option.some.injEq] at this
  rw [this]
  simp [hRH.len]
  omega
 -- which block lies where
 have hks:σ.length≤(H0'.map (Blk.ren (widen σ H H0'))).length:=by simp [hlen']
 have hcases:∀ (b:Nat) (k:Blk),(putAll σ (H0'.map (Blk.ren (widen σ H H0'))) H)[b]? = some k →
  (b<H.length∧b ∉ σ ∧ H[b]? = some k) ∨ ∃ (j:Nat) (k0:Blk),(widen σ H H0')[j]? = some b∧H0'[j]? = some k0∧k=k0.ren (widen σ H H0'):=by
  intro b k hb
  rcases Nat.lt_or_ge b H.length with hlt | hge
  ·by_cases hm:b ∈ σ
   ·obtain ⟨j,hj,hjb⟩:=List.mem_iff_getElem.1 hm
    have hj':σ[j]? = some b:=by rw [List.getElem?_eq_getElem hj,hjb]
    rw [putAll_in hks hnd (fun i hi=>hσlt i hi) hj',List.getElem?_map] at hb
    obtain ⟨k0,h0,h1⟩:=Option.map_eq_some_iff.1 hb
    exact .inr ⟨j,k0,by unfold widen; rw [List.getElem?_append_left hj]; exact hj',h0,h1.symm⟩
   rw [putAll_out hks hm hlt] at hb
   exact .inl ⟨hlt,hm,hb⟩
  obtain ⟨j,rfl⟩:∃ j,b=H.length+j:=⟨b - H.length,by omega⟩
  rw [putAll_new hks,List.getElem?_map] at hb
  obtain ⟨k0,h0,h1⟩:=Option.map_eq_some_iff.1 hb
  have hjt:j<t.length:=by
   have:=(List.getElem?_eq_some_iff.1 h0).1
   omega
  refine .inr ⟨σ.length+j,k0,?_,h0,h1.symm⟩
  unfold widen
  rw [hext,List.getElem?_append_right (by omega),Nat.add_sub_cancel_left,more_get hjt]
 have hat:∀ j b,(widen σ H H0')[j]? = some b→Ren.own (ρ.sub σ ++ t) j=Ren.own (ρ ++ t) b:=fun j b hj=>by rw [← hρs]; exact Ren.sub_own (hwlt b (List.mem_of_getElem? hj)) hj
 have hold:∀ b:Nat,b<H.length→Ren.own (ρ ++ t) b = ρ.own b:=fun b hb=>own_append (by rw [hRH.len]; exact hb)
 have hin:∀ g:Nat,image (ρ.sub σ) H0 g → ∃ i k,i ∈ σ ∧ H[i]? = some k∧k.live=true ∧ ρ.own i g:=by
  rintro g ⟨b,k,hb,hl,hg⟩
  obtain ⟨i,hi,hHi,hl'⟩:=hget0 b k hb hl
  exact ⟨i,_,List.mem_of_getElem? hi,hHi,hl',by rw [← Ren.sub_own (hsub i (List.mem_of_getElem? hi)) hi]; exact hg⟩
 have hfar:∀ (b:Nat) (k:Blk) (g:Nat),b<H.length→b ∉ σ → H[b]? = some k→k.live=true → ρ.own b g → ¬ image (ρ.sub σ) H0 g∧g<w.heap.size:=by
  intro b k g hb hn hk hl hg
  refine ⟨fun him => ?_,(hRH.lo g ⟨b,k,hk,hl,hg⟩).2⟩
  obtain ⟨i,k',hi,hk',hl',hg'⟩:=hin g him
  have:=hRH.inj b i k k' g hk hk' hl hl' hg hg'
  subst this
  exact hn hi
 have himg':∀ g:Nat,image (ρ ++ t) (putAll σ (H0'.map (Blk.ren (widen σ H H0'))) H) g→image ρ H g∨image (ρ.sub σ ++ t) H0' g:=by
  rintro g ⟨b,k,hb,hl,hg⟩
  rcases hcases b k hb with ⟨hlt,_,hk⟩ | ⟨j,k0,hj,hk0,rfl⟩
  ·rw [hold b hlt] at hg
   exact .inl ⟨b,k,hk,hl,hg⟩
  exact .inr ⟨j,k0,hk0,live_of_ren hl,by rw [hat j b hj]; exact hg⟩
 have himg2:∀ g:Nat,image (ρ.sub σ) H0 g→image ρ H g:=fun g hg=>by
  obtain ⟨i,k,_,h1,h2,h3⟩:=hin g hg
  exact ⟨i,k,h1,h2,h3⟩
 refine ⟨_,_,ρ ++ t,v,hR _ _ hR0,rfl,AV.R.ren hwlt (by rw [hρs]; exact hv),⟨?_,fun b k e hb he => ?_,fun b b' k k' g hb hb' l l' a a' => ?_,fun g hg => ?_,hRH'.base⟩,⟨t,rfl⟩,⟨hfr.1,hfr.2.1,hfr.2.2.1,hfr.2.2.2.1,fun i hi hn=>hfr.2.2.2.2 i hi fun him=>hn (himg2 i him)⟩,fun g hg => ?_⟩
 ·rw [putAll_length hks]
  simp [hRH.len,hlen']
 ·rcases hcases b k hb with ⟨hlt,hn,hk⟩ | ⟨j,k0,hj,hk0,rfl⟩
  ·rw [List.getElem?_append_left (by rw [hRH.len]; exact hlt)] at he
   refine ((hRH.ok b k e hk he).keep fun g hg hl => ?_).more t
   obtain ⟨h1,h2⟩:=hfar b k g hlt hn hk hl (own_of he hg)
   exact hfr.2.2.2.2 g h2 h1
  refine Blk.ok.ren hwlt ?_
  rw [hρs]
  refine hRH'.ok j k0 e hk0 ?_
  rw [← hρs,Ren.sub_get hj,List.getD_eq_getElem?_getD,he]
  rfl
 ·rcases hcases b k hb with ⟨hlt,hn,hk⟩ | ⟨j,k0,hj,hk0,rfl⟩
  ·rw [hold b hlt] at a
   obtain ⟨h1,h2⟩:=hfar b k g hlt hn hk l a
   rcases hcases b' k' hb' with ⟨hlt',hn',hk'⟩ | ⟨j',k0',hj',hk0',rfl⟩
   ·rw [hold b' hlt'] at a'
    exact hRH.inj b b' k k' g hk hk' l l' a a'
   rcases himg g ⟨j',k0',hk0',live_of_ren l',by rw [hat j' b' hj']; exact a'⟩ with h | h
   ·exact absurd h h1
   omega
  rcases hcases b' k' hb' with ⟨hlt',hn',hk'⟩ | ⟨j',k0',hj',hk0',rfl⟩
  ·rw [hold b' hlt'] at a'
   obtain ⟨h1,h2⟩:=hfar b' k' g hlt' hn' hk' l' a'
   rcases himg g ⟨j,k0,hk0,live_of_ren l,by rw [hat j b hj]; exact a⟩ with h | h
   ·exact absurd h h1
   omega
  have:=hRH'.inj j j' k0 k0' g hk0 hk0' (live_of_ren l) (live_of_ren l') (by rw [hat j b hj]; exact a) (by rw [hat j' b' hj']; exact a')
  subst this
  rw [hj] at hj'
  exact Option.some.inj hj'
 ·rcases himg' g hg with h | h
  ·have:=hRH.lo g h
   exact ⟨this.1,Nat.lt_of_lt_of_le this.2 hfr.2.2.2.1⟩
  exact hRH'.lo g h
 rcases himg' g hg with h | h
 ·exact .inl h
 rcases himg g h with h | h
 ·exact .inl (himg2 g h)
 exact .inr h
end
end Go.Vc
end
section
namespace Go.Vc
open Go.RowKit (Below)
section
variable {P:Program} {w0:World}
def recov2 (P:Program) (fn:Func) (o1 o2:Oper) (c:Nat):Bool :=
 match o1.dst,o1.op,o1.guard,o2.dst,o2.op,o2.guard with
 | some t1,.call ⟨.builtin .recover,_,_⟩,none,some t2,.binOp .neq ty (.tmp t) (.const .nilIface) _,none =>
  Nat.beq t t1 && (Nat.beq c t2 && (Nat.blt t1 fn.ntmps && (Nat.blt t2 fn.ntmps && (match P.underlying ty with | some (.interface _)=>true | _=>false))))
 | _,_,_,_,_,_=>false
def recovOk (P:Program) (g:FuncId):Bool :=
 match P.funcs[g]? with
 | none=>false
 | some fn => !(fn.name == "runtime.NumGoroutine") && (match fn.results.toList with | []=>true | _=>false) && (match fn.body with
  | some (.seq (.region _ ⟨[o1,o2]⟩ false) (.cond (.tmp c) _ .skip))=>recov2 P fn o1 o2 c
  | _=>false)
theorem equal_nil {ty:TypeId} {m:Array (String × TypeId)} (hm:P.underlying ty=some (.interface m)) (w:World):(Op.equal ty .nilIface .nilIface).run P w = .ok true w:=by
 have key:∀ n,(Op.equalIn (n+1) ty .nilIface .nilIface).run P w = .ok true w:=by
  intro n
  unfold Op.equalIn
  rw [Sem.run_bind,run_underlying hm]
  rfl
 exact key 9999
theorem recov_calls {g:FuncId} (h:recovOk P g=true) (args:Array Value) (w:World) :
 CallsD P g args .returning w (fun e u' w'=>(∃ v,e = .returned v)∧u' = .returning∧w'=w) ∧ ∃ fn,P.funcs[g]? = some fn∧(fn.name == "runtime.NumGoroutine")=false∧fn.body.isNone=false:=by
 unfold recovOk at h
 cases hf:P.funcs[g]? with
 | none=>simp [hf] at h
 | some fn =>
  simp only [hf,Bool.and_eq_true,Bool.not_eq_true'] at h
  obtain ⟨⟨hn,hres⟩,hbody⟩:=h
  split at hbody
  ·rename_i b o1 o2 c y hb
   unfold recov2 at hbody
   split at hbody
   ·rename_i t1 ca ct t2 ty t z hd1 ho1 hg1 hd2 ho2 hg2
    simp only [Bool.and_eq_true] at hbody
    obtain ⟨e1,e2,l1,l2,hty⟩:=hbody
    have e1:=Nat.eq_of_beq_eq_true e1
    have e2:=Nat.eq_of_beq_eq_true e2
    subst e1 e2
    have l1:t<fn.ntmps:=Nat.le_of_ble_eq_true l1
    have l2:c<fn.ntmps:=Nat.le_of_ble_eq_true l2
    refine ⟨callsD_of_wpS hf hb fun c₀ cs hu => ?_,fn,rfl,hn,by rw [hb]; rfl⟩
    have hsz:∀ k,k<fn.ntmps→k<(args++Array.replicate (fn.ntmps - args.size) undef).size:=fun k hk=>by
     simp
     omega
    generalize args++Array.replicate (fn.ntmps - args.size) undef=tmps at *
    refine wpS_seq (wpS_region ?_)
    have hr:recoverD (c₀::cs)=none:=by simp [recoverD,hu]
    have hty':∃ m,P.underlying ty=some (.interface m):=by
     split at hty
     ·rename_i m hm
      exact ⟨m,hm⟩
     cases hty
    obtain ⟨m,hm⟩:=hty'
    have hrun1:∀ a:Act,(execOp a.eval o1).run P w = .ok .recover w:=fun a=>by
     simp [execOp,ho1,resolve,invoke,builtin]
    have hrun2:∀ a:Act,a.tmps[t]? = some .nilIface→(execOp a.eval o2).run P w = .ok (.value (.bool false)) w:=fun a ha=>by
     have hev:a.eval (.tmp t) = .nilIface:=by simp [Act.eval,ha]
     have hev2:a.eval (.const .nilIface) = .nilIface:=rfl
     simp [execOp,ho2,hev,hev2,eqGuard,binOp,equal_nil hm]
    have hl:(List.range (#[o1,o2]:Array Oper).size)=[0,1]:=rfl
    show wpOpsS P #[o1,o2] _ (List.range (#[o1,o2]:Array Oper).size) _ _ _
    rw [hl]
    have h1:t<(tmps.setIfInBounds t Value.nilIface).size:=by simpa using hsz t l1
    have h2:c<(tmps.setIfInBounds t Value.nilIface).size:=by simpa using hsz c l2
    have w1:∀ y,Region.wanted o1 y=true:=fun y=>by simp [Region.wanted,hg1]
    have w2:∀ y,Region.wanted o2 y=true:=fun y=>by simp [Region.wanted,hg2]
    have ha1:(tmps.setIfInBounds t Value.nilIface)[t]? = some .nilIface:=by
     rw [Array.getElem?_setIfInBounds_self_of_lt (hsz t l1)]
    unfold wpOpsS
    rw [show (#[o1,o2]:Array Oper)[0]? = some o1 from rfl]
    simp only [w1,if_true,hrun1,hr,Act.put,hd1]
    unfold wpOpsS
    rw [show (#[o1,o2]:Array Oper)[1]? = some o2 from rfl]
    simp only [w2,if_true,hrun2 { tmps:=tmps.setIfInBounds t Value.nilIface,defers:=[] } ha1,Oper.upon_value,Act.put,hd2]
    unfold wpOpsS
    refine wpS_cond (t:=false) ?_ ?_
    ·simp only [Act.eval]
     rw [Array.getD_eq_getD_getElem?,Array.getElem?_setIfInBounds_self_of_lt h2]
     rfl
    simp only [Bool.false_eq_true,if_false]
    refine wpS_of_wp (wp_skip ?_)
    have hres0:fn.results = #[]:=by
     split at hres
     ·rename_i hnil
      exact Array.toList_inj.1 (by rw [hnil])
     cases hres
    exact ⟨rfl,.returning,by rw [← hu],_,results_none hres0 _ P w,⟨_,rfl⟩,rfl,rfl⟩
   cases hbody
  cases hbody
def dfr2 (o1 o2:Oper):Option (Nat × FuncId × Array Operand) :=
 match o1.dst,o1.op,o1.guard,o2.dst,o2.op,o2.guard with
 | some t,.makeFunc (.func g) ⟨[]⟩ caps,none,none,.defer ⟨.value (.tmp t'),⟨[]⟩,_⟩,none=>bif Nat.beq t t' then some (t,g,caps) else none
 | _,_,_,_,_,_=>none
def compD (P:Program) (f:FuncId):Option IFn :=
 match P.funcs[f]? with
 | none=>none
 | some fn=>match fn.body with
  | some (.seq (.region _ ops0 false) (.seq (.region _ ⟨[o1,o2]⟩ false) rest)) =>
   (match dfr2 o1 o2,compGs P fn.ntmps ops0 ops0.toList,compG P fn.ntmps #[o1,o2] o1,compC P fn.ntmps rest,compRes P fn.results.toList with
   | some (_,g,_),some gs,some g1,some ir,some rs =>
    if recovOk P g && !(fn.name == "runtime.NumGoroutine") && Nat.ble (fn.params.size+fn.nfree) fn.ntmps then some ⟨.seq (.reg gs) (.seq (.reg [g1]) ir),fn.params.size+fn.nfree,rs⟩ else none
   | _,_,_,_,_=>none)
  | _=>none
theorem Rel.ds {cx:Cx} {N:Nat} {ρ:Ren} {s:S} {a:Act} {w:World} (h:Rel w0 cx N ρ s a w) (l:List Deferred):Rel w0 ⟨cx.w1,cx.F,cx.ρe,l⟩ N ρ s { a with defers:=l } w :=
 ⟨h.sz,rfl,h.env,⟨h.core.rh,h.core.fr,h.core.own,h.core.pre⟩⟩
theorem callsA_of_evD {f:FuncId} {F:IFn} {args:List A1} {H:List Blk} {R:AV→List Blk→Prop} (hc:compD P f=some F) (h:evF P w0 F args H R):CallsA P w0 f args H R:=by
 unfold compD at hc
 cases hf:P.funcs[f]? with
 | none=>simp [hf] at hc
 | some fn =>
  simp only [hf] at hc
  split at hc
  ·rename_i b0 ops0 b1 o1 o2 rest hb
   split at hc
   ·rename_i t g caps gs g1 ir rs hd hgs hg1 hir hrs
    split at hc
    ·rename_i hok
     simp only [Bool.and_eq_true,Bool.not_eq_true'] at hok
     obtain ⟨⟨hrec,hnm⟩,hnt⟩:=hok
     have hnt:=Nat.le_of_ble_eq_true hnt
     cases hc
     obtain ⟨hlen,h⟩:=chk_spec h
     have hlen:args.length=fn.params.size+fn.nfree:=Nat.eq_of_beq_eq_true hlen
     obtain ⟨e,h,he⟩:=envF_spec h
     refine ⟨by simp [hf,hb,hnm],fun ρ w vs hRH hA=>calls_of_wp_defers hf hb ?_⟩
     have hvl:vs.length=args.length:=hA.length.symm
     have hm:H.length = ρ.length:=hRH.len.symm
     rw [hm] at h
     have hR0:Rel w0 ⟨w,image ρ H,ρ,[]⟩ fn.ntmps ρ ⟨e,H⟩ { tmps:=vs.toArray++Array.replicate (fn.ntmps - vs.toArray.size) undef,defers:=[] } w:=by
      refine ⟨?_,rfl,fun t x hx => ?_,⟨hRH,FrameP.refl _ _,fun g hg => .inl hg,⟨[],by simp⟩⟩⟩
      ·simp
       omega
      obtain ⟨a,rfl,_,ha⟩:=he t x hx
      obtain ⟨v,hv,hav⟩:=hA.at_ _ _ ha
      refine ⟨v,?_,hav⟩
      have hv:vs[t]? = some v:=by simpa using hv
      have htl:=(List.getElem?_eq_some_iff.1 hv).1
      rw [Array.getElem?_append_left (by simpa using htl)]
      simpa using hv
     -- the results' cells
     have h:evGs P w0 gs ⟨e,H⟩ fun s1=>evG P w0 g1 s1 fun s2=>evC P w0 ρ.length ir s2 (evEnd w0 ρ.length rs R):=h
     refine wp_seq (wp_mono (wp_region_list (evGs_sound (K:=fun e s1=>match e with | .normal=>evG P w0 g1 s1 fun s2=>evC P w0 ρ.length ir s2 (evEnd w0 ρ.length rs R) | _=>False) hgs h hR0)) fun e1 a1 w1 hq => ?_)
     obtain ⟨_,s1,ρ1,hK1,hR1⟩:=hq
     cases e1 <;> first | exact hK1.elim | skip
     -- the closure,and that it is put off
     have hdef:=hd
     unfold dfr2 at hdef
     split at hdef
     ·rename_i t1 g' caps' t' ts hd1 ho1 hgd1 hd2 ho2 hgd2
      have htt:t1=t':=by
       cases hb2:Nat.beq t1 t' with
       | true=>exact Nat.eq_of_beq_eq_true hb2
       | false=>rw [hb2] at hdef; cases hdef
      subst htt
      simp only [Nat.beq_refl,cond_true,Option.some.injEq,Prod.mk.injEq] at hdef
      obtain ⟨rfl,rfl,rfl⟩:=hdef
      obtain ⟨hi,hdst,hdN,_⟩:=compG_spec hg1
      have hq1:g1.i.quiet=true:=by
       simp only [compI,ho1] at hi
       split at hi
       ·obtain ⟨xs,_,hgi⟩:=map_some hi
        rw [← hgi]
        rfl
       cases hi
      rcases evG_cases hg1 hK1 hR1.env with ⟨_,e',h,hE',_⟩ | ⟨hw,_⟩
      ·obtain ⟨x,v,C,hput,hx,hCw,hrun,_⟩:=quiet_of (s:=⟨e',s1.H⟩) (cx:=⟨w,image ρ H,ρ,[]⟩) hE' hR1.core hi hq1 h
       obtain ⟨s2,hs2,hR2,_⟩:=put_spec hput hR1.sz hR1.df hE' hR1.core (fun k hk=>hdN k (by rw [← hdst]; exact hk)) hx
       rw [hdst,hd1] at hR2
       have hrun1:(execOp a1.eval o1).run P w1 = .ok (.value (.func (.func g') #[] (caps'.map a1.eval))) w1:=by
        simp [execOp,ho1,Instr.makeFunc]
       have hv:v = .func (.func g') #[] (caps'.map a1.eval):=by
        have:=hrun w1 hCw
        rw [hrun1] at this
        simpa using this.symm
       have htN:t1<a1.tmps.size:=by rw [hR1.sz]; exact hdN t1 hd1
       refine wp_seq (wp_region_list (P:=P) (ops := #[o1,o2]) ?_)
       show wpList P #[o1,o2] _ [o1,o2] a1 w1
       unfold wpList
       rw [if_pos (by simp [Region.wanted,hgd1])]
       refine .inl ?_
       unfold Oper.wp
       rw [hrun1,Oper.upon_value,hd1]
       unfold wpList
       rw [if_pos (by simp [Region.wanted,hgd2])]
       refine .inl ?_
       have hev:(a1.put (some t1) (.func (.func g') #[] (caps'.map a1.eval))).eval (.tmp t1) = .func (.func g') #[] (caps'.map a1.eval):=by
        simp [Act.eval,Act.put,htN]
       have hrun2:(execOp (a1.put (some t1) (.func (.func g') #[] (caps'.map a1.eval))).eval o2).run P w1 = .ok (.defer { target := .fn (.func g') (caps'.map a1.eval),args := #[] }) w1:=by
        simp [execOp,ho2,resolve,hev,Deferred.ofValue]
       unfold Oper.wp
       rw [hrun2,Oper.upon_defer,hd2]
       rw [hv] at hR2
       have hR3:=hR2.ds [{ target := .fn (.func g') (caps'.map a1.eval),args := #[] }]
       have hdf2:(a1.put (some t1) (.func (.func g') #[] (caps'.map a1.eval))).defers=[]:=hR2.df
       unfold wpList
       rw [hdf2]
       refine wp_mono (evC_sound (cx:=⟨w,image ρ H,ρ,[{ target := .fn (.func g') (caps'.map a1.eval),args := #[] }]⟩) rest ir hir _ _ ρ1 _ w1 hs2 hR3) fun ex a' w' hq => ?_
       obtain ⟨hok,s',ρ',hK,hR⟩:=hq
       have key:(resF w0 s' rs fun l=>Fin ρ.length R (resV l) s'.H)→Leaves P fn a'.tmps (fun en w' => ∃ r H' ρ' v,R r H'∧en = .returned v∧AV.R ρ' r v∧RH w0 ρ' H' w'∧(∃ t,ρ' = ρ ++ t)∧FrameP w (image ρ H) w' ∧ ∀ g,image ρ' H' g→image ρ H g∨w.heap.size≤g) a'.defers .returning w':=by
        intro hres
        obtain ⟨xs,v,hfin,hrun,hxv⟩:=results_spec hR.env hR.core.rh hrs hres
        obtain ⟨hcd,fn2,hf2,hn2,hb2⟩:=recov_calls (P:=P) hrec (caps'.map a1.eval) w'
        rw [hR.df]
        refine ⟨by simp,.func g',_,g',caps'.map a1.eval,rfl,?_,hcd.mono fun e u' w'' he => ?_⟩
        ·have hn3:¬ fn2.name = "runtime.NumGoroutine" := by simpa using hn2
         have hb3:¬ fn2.body=none:=by intro h0; rw [h0] at hb2; cases hb2
         simp [invoke,callFunc,run_program,hf2,hn3,hb3]
        obtain ⟨⟨v',rfl⟩,rfl,rfl⟩:=he
        refine ⟨v,hrun,?_⟩
        rcases hfin with hfin | ⟨σ,r0,H0,hemb,hr,hfin⟩
        ·exact ⟨_,_,ρ',v,hfin,rfl,hxv,hR.core.rh,hR.core.pre,hR.core.fr,hR.core.own⟩
        have hcore:=EmbH.core hemb rfl hR.core
        rw [hr] at hxv
        exact ⟨_,_,_,v,hfin,rfl,AV.R.of_ren hxv,hcore.rh,hcore.pre,hcore.fr,hcore.own⟩
       cases ex with
       | normal=>exact key hK
       | ret=>exact key hK
       | exit id=>exact hK.elim
       | goto l=>exact hK.elim
       | _=>cases hok
      rw [show Region.wanted o1 _=true by simp [Region.wanted,hgd1]] at hw
      cases hw
     cases hdef
    cases hc
   cases hc
  cases hc
end
end Go.Vc
end
end
section
namespace Go.Vc
open Go.RowKit (Below)
theorem Ghost.trans {w0:World} {H H1 H2:List Blk} (h1:Ghost w0 H H1) (h2:Ghost w0 H1 H2):Ghost w0 H H2:=fun ρ w h=>by
 obtain ⟨t,a,b⟩:=h1 ρ w h
 obtain ⟨u,c,d⟩:=h2 (ρ ++ t) w a
 rw [List.append_assoc] at c d
 exact ⟨t++u,c,fun g hg=>b g (d g hg)⟩
theorem push_get {H:List Blk} {k:Blk} {b:Nat} {q:Blk} (hq:(H++[k])[b]? = some q):(b<H.length∧H[b]? = some q)∨(b=H.length∧q=k):=by
 rcases Nat.lt_or_ge b H.length with hb | hb
 ·rw [List.getElem?_append_left hb] at hq; exact .inl ⟨hb,hq⟩
 have hb2:b<(H++[k]).length:=(List.getElem?_eq_some_iff.1 hq).1
 have:b=H.length:=by simp at hb2; omega
 subst this
 simp at hq
 exact .inr ⟨rfl,hq.symm⟩
theorem Ghost.fam0 (w0:World) (H:List Blk) {α:Type} (T:TypeId) (e:Enc α) (wd:Nat) (h0:0<wd) (hl:∀ x,(e.f [] x).length=wd):Ghost w0 H (H++[.fam T e wd []]):=fun ρ w h=>by
 have hnone:∀ g,¬ owns (none,0) g:=by
  rintro g (h | ⟨_,ms,c,h1,h2⟩)
  ·cases h
  have:=encM_inj (a:=ms) (b:=[]) h1
  subst this
  cases h2
 have hown:∀ b q g,(H++[.fam T e wd []])[b]? = some q→Ren.own (ρ ++ [(none,0)]) b g→b<H.length∧H[b]? = some q ∧ ρ.own b g:=by
  intro b q g hq hg
  rcases push_get hq with ⟨h1,h2⟩ | ⟨h1,_⟩
  ·rw [own_append (by rw [h.len]; exact h1)] at hg
   exact ⟨h1,h2,hg⟩
  rw [h1,← h.len,own_last] at hg
  exact absurd hg (hnone g)
 have himg:∀ g,image (ρ ++ [(none,0)]) (H++[.fam T e wd []]) g→image ρ H g:=by
  rintro g ⟨b,q,hq,hl,hg⟩
  obtain ⟨_,h2,h3⟩:=hown b q g hq hg
  exact ⟨b,q,h2,hl,h3⟩
 refine ⟨[(none,0)],⟨by simp [h.len],fun b q e1 hq he => ?_,fun b b' k k' g hb hb' l l' a a' => ?_,fun g hg=>h.lo g (himg g hg),h.base⟩,himg⟩
 ·rcases push_get hq with ⟨h1,h2⟩ | ⟨h1,rfl⟩
  ·rw [List.getElem?_append_left (by rw [h.len]; exact h1)] at he
   exact (h.ok b q e1 h2 he).more _
  rw [h1,← h.len] at he
  simp at he
  subst he
  exact ⟨h0,hl,rfl,[],rfl,rfl,fun i j m m' g hi=>by simp at hi,fun j m xs hj=>by simp at hj⟩
 obtain ⟨_,h2,h3⟩:=hown b k g hb a
 obtain ⟨_,h2',h3'⟩:=hown b' k' g hb' a'
 exact h.inj b b' k k' g h2 h2' l l' h3 h3'
def tau (f i nf J:Nat):CV→CV
 | .mem b j n=>bif Nat.beq b f then .mem nf j n else .mem b j n
 | .vec b n=>bif Nat.beq b i then .mem nf J n else .vec b n
 | .mrow b j wd k o=>bif Nat.beq b f then .mrow nf j wd k o else .mrow b j wd k o
 | .row b wd k o=>bif Nat.beq b i then .mrow nf J wd k o else .row b wd k o
 | x=>x
def reK (f i nf J b:Nat) (k k1:Blk):Prop :=
 k1 = .dead∨(b≠f∧b≠i∧(k1=k∨(∃ T cs,k = .cells T cs∧k1 = .cells T (cs.map (tau f i nf J))) ∨
  ∃ (α β:Type) (wr:Bool) (T:TypeId) (e1:Enc α) (bs1:List Nat) (xs1:List α) (e2:Enc β) (bs2:List Nat) (xs2:List β) (wd:Nat),
   k = .vec wr T e1 bs1 wd xs1∧k1 = .vec wr T e2 bs2 wd xs2∧xs2.length=xs1.length∧(∀ x,(e2.f bs2 x).length=wd)∧flat e2 bs2 xs2=(flat e1 bs1 xs1).map (tau f i nf J)))
theorem All2.map_cv {ρ ρ':Ren} {f:CV→CV} (hf:∀ c v,c.R ρ v→(f c).R ρ' v):∀ {l:List CV} {vs:List Value},All2 (CV.R ρ) l vs→All2 (CV.R ρ') (l.map f) vs
 | _,_,.nil => .nil
 | _,_,.cons h r => .cons (hf _ _ h) (All2.map_cv hf r)
theorem Ghost.join {w0:World} {H H1:List Blk} {α:Type} {T:TypeId} {e:Enc α} {wd:Nat} {xss:List (List α)} {wr:Bool} {zs:List α} {f i:Nat} (hf:H[f]? = some (.fam T e wd xss)) (hi:H[i]? = some (.vec wr T e [] wd zs))
 (hlen:H1.length=H.length) (hre:∀ (b:Nat) k,H[b]? = some k → ∃ k1,H1[b]? = some k1∧reK f i H.length xss.length b k k1):Ghost w0 H (H1++[.fam T e wd (xss++[zs])]):=fun ρ w h=>by
 have hfi:f≠i:=by
  rintro rfl
  rw [hf] at hi
  cases hi
 obtain ⟨ef,hef,h0,hw,h1,ms,h2,h3,h4,h5⟩:=h.get hf
 obtain ⟨ei,hei,_,_,h6⟩:=h.get hi
 have hei1:∀ g,ei.1=some g → ρ.own i g:=fun g hg=>own_of hei (.inl hg)
 have hfm:∀ (j:Nat) m g,ms[j]? = some m→m.1=some g → ρ.own f g:=fun j m g hj hm=>own_of hef (.inr ⟨h1,ms,m.2,h2,by rw [← hm]; exact List.mem_of_getElem? hj⟩)
 have hH1:∀ (b:Nat) k1,H1[b]? = some k1 → ∃ k,H[b]? = some k∧reK f i H.length xss.length b k k1:=by
  intro b k1 hb
  have hlt:b<H.length:=by rw [← hlen]; exact (List.getElem?_eq_some_iff.1 hb).1
  obtain ⟨k1',hk1,hr⟩:=hre b _ (List.getElem?_eq_getElem hlt)
  rw [hb] at hk1
  cases hk1
  exact ⟨_,List.getElem?_eq_getElem hlt,hr⟩
 have hlive:∀ (b:Nat) k k1,reK f i H.length xss.length b k k1→k1.live=true→b≠f∧b≠i∧k.live=true:=by
  intro b k k1 hr hl
  rcases hr with rfl | ⟨a,c,hr⟩
  ·cases hl
  refine ⟨a,c,?_⟩
  rcases hr with rfl | ⟨T,cs,rfl,rfl⟩ | ⟨α,β,wr,T,e1,bs1,xs1,e2,bs2,xs2,wd,rfl,rfl,_⟩
  ·exact hl
  ·rfl
  rfl
 obtain ⟨e',he'⟩:∃ e',e'=((none:Option Nat),encM (ms++[ei])):=⟨_,rfl⟩
 have hnew:∀ g,owns e' g → ρ.own f g ∨ ρ.own i g:=by
  rintro g (hg | ⟨_,ms',c,hm,hc⟩)
  ·rw [he'] at hg; cases hg
  rw [he'] at hm
  have:=encM_inj hm
  subst this
  rcases List.mem_append.1 hc with hc | hc
  ·exact .inl (own_of hef (.inr ⟨h1,ms,c,h2,hc⟩))
  have:(some g,c)=ei:=by simpa using hc
  exact .inr (hei1 g (by rw [← this]))
 have hat:∀ b:Nat,b<H.length→Ren.own (ρ ++ [e']) b = ρ.own b:=fun b hb=>own_append (by rw [h.len]; exact hb)
 have hlast:Ren.own (ρ ++ [e']) H.length=owns e':=by rw [← h.len]; exact own_last
 have himg:∀ g,image (ρ ++ [e']) (H1++[.fam T e wd (xss++[zs])]) g→image ρ H g:=by
  rintro g ⟨b,q,hq,hl,hg⟩
  rcases push_get hq with ⟨q1,q2⟩ | ⟨q1,_⟩
  ·obtain ⟨k,hk,hr⟩:=hH1 b q q2
   rw [hat b (by omega)] at hg
   exact ⟨b,k,hk,(hlive b k q hr hl).2.2,hg⟩
  rw [q1,hlen,hlast] at hg
  rcases hnew g hg with hg | hg
  ·exact ⟨f,_,hf,rfl,hg⟩
  exact ⟨i,_,hi,rfl,hg⟩
 have hget:(ρ ++ [e'])[H.length]? = some e':=by rw [← h.len]; simp
 have hτ:∀ c v,CV.R ρ c v→(tau f i H.length xss.length c).R (ρ ++ [e']) v:=by
  intro c v hc
  cases c with
  | mem b j n =>
   simp only [tau]
   cases hb:Nat.beq b f with
   | false=>exact CV.R.more [e'] hc
   | true =>
    have:=Nat.eq_of_beq_eq_true hb
    subst this
    obtain ⟨e1,ms',m,g1,g2,g3,g4⟩:=hc
    rw [hef] at g1
    cases g1
    have:=encM_inj (g2.trans h2.symm)
    subst this
    exact ⟨e',ms'++[ei],m,hget,by rw [he'],getElem?_app g3,g4⟩
  | vec b n =>
   simp only [tau]
   cases hb:Nat.beq b i with
   | false=>exact CV.R.more [e'] hc
   | true =>
    have:=Nat.eq_of_beq_eq_true hb
    subst this
    obtain ⟨e1,g1,g2⟩:=hc
    rw [hei] at g1
    cases g1
    exact ⟨e',ms++[ei],ei,hget,by rw [he'],by rw [← h3]; simp,g2⟩
  | mrow b j wd2 k o =>
   simp only [tau]
   cases hb:Nat.beq b f with
   | false=>exact CV.R.more [e'] hc
   | true =>
    have:=Nat.eq_of_beq_eq_true hb
    subst this
    obtain ⟨e1,ms',m,g,g1,g2,g3,g4⟩:=hc
    rw [hef] at g1
    cases g1
    have:=encM_inj (g2.trans h2.symm)
    subst this
    exact ⟨e',ms'++[ei],m,g,hget,by rw [he'],getElem?_app g3,g4⟩
  | row b wd2 k o =>
   simp only [tau]
   cases hb:Nat.beq b i with
   | false=>exact CV.R.more [e'] hc
   | true =>
    have:=Nat.eq_of_beq_eq_true hb
    subst this
    obtain ⟨g,g1,g2⟩:=hc
    rw [at_of_get hei] at g1
    exact ⟨e',ms++[ei],ei,g,hget,by rw [he'],by rw [← h3]; simp,g1,g2⟩
  | _=>exact CV.R.more [e'] hc
 refine ⟨[e'],⟨by simp [h.len,hlen],fun b q e1 hq he => ?_,fun b b' k k' g hb hb' l l' a a' => ?_,fun g hg=>h.lo g (himg g hg),h.base⟩,himg⟩
 ·rcases push_get hq with ⟨q1,q2⟩ | ⟨q1,rfl⟩
  ·obtain ⟨k,hk,hr⟩:=hH1 b q q2
   rw [List.getElem?_append_left (by rw [h.len,← hlen]; exact q1)] at he
   have hok:=h.ok b k e1 hk he
   rcases hr with rfl | ⟨a,c,hr⟩
   ·trivial
   rcases hr with rfl | ⟨T,cs,rfl,rfl⟩ | ⟨α,β,wr,T,en1,bs1,xs1,en2,bs2,xs2,wd,rfl,rfl,hxl,hw2,hfl⟩
   ·exact hok.more _
   ·obtain ⟨g,arr,r1,r2,r3⟩:=hok
    exact ⟨g,arr,r1,r2,All2.map_cv hτ r3⟩
   obtain ⟨r0,r1,r2⟩:=hok
   refine ⟨r0,hw2,?_⟩
   rcases r2 with ⟨r2,r3,r4⟩ | ⟨g,arr,fz,r2,r3,r4,r5,r6,⟨sp,r7,r8⟩,r9⟩
   ·refine .inl ⟨r2,?_,r4⟩
    rw [r3] at hxl
    exact List.length_eq_zero_iff.1 hxl
   refine .inr ⟨g,arr,fz,r2,r3,r4,by rw [hxl]; exact r5,r6,⟨sp,?_,r8⟩,r9⟩
   have:=All2.map_cv hτ r7
   rw [List.map_append,← hfl] at this
   have hsp:sp.map (tau f i H.length xss.length)=sp:=by
    conv=>rhs; rw [← List.map_id sp]
    exact List.map_congr_left fun x hx=>by rw [r8 x hx]; rfl
   rw [hsp] at this
   exact this
  rw [q1,hlen,hget] at he
  cases he
  refine ⟨h0,hw,by rw [he'],ms++[ei],by rw [he'],by simp [h3],fun j j' m m' g hj hj' hm hm' => ?_,fun j m xs hj hx => ?_⟩
  ·rcases Nat.lt_or_ge j ms.length with c | c <;> rcases Nat.lt_or_ge j' ms.length with c' | c'
   ·rw [List.getElem?_append_left c] at hj
    rw [List.getElem?_append_left c'] at hj'
    exact h4 j j' m m' g hj hj' hm hm'
   ·rw [List.getElem?_append_left c] at hj
    have e2:j'=ms.length:=by have:=(List.getElem?_eq_some_iff.1 hj').1; simp at this; omega
    subst e2
    simp at hj'
    subst hj'
    exact absurd (h.inj f i _ _ g hf hi rfl rfl (hfm j m g hj hm) (hei1 g hm')) hfi
   ·rw [List.getElem?_append_left c'] at hj'
    have e2:j=ms.length:=by have:=(List.getElem?_eq_some_iff.1 hj).1; simp at this; omega
    subst e2
    simp at hj
    subst hj
    exact absurd (h.inj f i _ _ g hf hi rfl rfl (hfm j' m' g hj' hm') (hei1 g hm)) hfi
   have e1:=(List.getElem?_eq_some_iff.1 hj).1
   have e2:=(List.getElem?_eq_some_iff.1 hj').1
   simp at e1 e2
   omega
  rcases Nat.lt_or_ge j ms.length with c | c
  ·rw [List.getElem?_append_left c] at hj
   rw [List.getElem?_append_left (by omega)] at hx
   rcases h5 j m xs hj hx with r | ⟨g,arr,fz,r1,r2,r3,r4,r5,sp,r6,r7⟩
   ·exact .inl r
   exact .inr ⟨g,arr,fz,r1,r2,r3,r4,r5,sp,r6.mono fun _ _=>CV.R.more _,r7⟩
  have e1:j=ms.length:=by have:=(List.getElem?_eq_some_iff.1 hj).1; simp at this; omega
  subst e1
  simp at hj
  subst hj
  rw [h3] at hx
  simp at hx
  subst hx
  rcases h6 with r | ⟨g,arr,fz,r1,r2,r3,r4,r5,⟨sp,r6,r7⟩,_⟩
  ·exact .inl r
  exact .inr ⟨g,arr,fz,r1,r2,r3,r4,r5,sp,r6.mono fun _ _=>CV.R.more _,r7⟩
 have hcase:∀ (b:Nat) k,(H1++[.fam T e wd (xss++[zs])])[b]? = some k→k.live=true→Ren.own (ρ ++ [e']) b g→(b<H.length∧b≠f∧b≠i ∧ ∃ k0,H[b]? = some k0∧k0.live=true ∧ ρ.own b g)∨(b=H.length∧(ρ.own f g ∨ ρ.own i g)):=by
  intro b k hb l a
  rcases push_get hb with ⟨q1,q2⟩ | ⟨q1,_⟩
  ·obtain ⟨k0,hk,hr⟩:=hH1 b k q2
   rw [hat b (by omega)] at a
   obtain ⟨r1,r2,r3⟩:=hlive b k0 k hr l
   exact .inl ⟨by omega,r1,r2,k0,hk,r3,a⟩
  rw [q1,hlen,hlast] at a
  exact .inr ⟨by omega,hnew g a⟩
 rcases hcase b k hb l a with ⟨r1,r2,r3,k0,r4,r5,r6⟩ | ⟨r1,r2⟩ <;> rcases hcase b' k' hb' l' a' with ⟨t1,t2,t3,k0',t4,t5,t6⟩ | ⟨t1,t2⟩
 ·exact h.inj b b' k0 k0' g r4 t4 r5 t5 r6 t6
 ·rcases t2 with t2 | t2
  ·exact absurd (h.inj b f k0 _ g r4 hf r5 rfl r6 t2) r2
  exact absurd (h.inj b i k0 _ g r4 hi r5 rfl r6 t2) r3
 ·rcases r2 with r2 | r2
  ·exact absurd (h.inj b' f k0' _ g t4 hf t5 rfl t6 r2) t2
  exact absurd (h.inj b' i k0' _ g t4 hi t5 rfl t6 r2) t3
 omega
def reL (f i nf J:Nat):Nat→List Blk→List Blk→Prop
 | _,[],[]=>True
 | b,k::r,k1::r1=>reK f i nf J b k k1∧reL f i nf J (b+1) r r1
 | _,_,_=>False
theorem reL_spec {f i nf J:Nat}:∀ {n:Nat} {H H1:List Blk},reL f i nf J n H H1→H1.length=H.length ∧ ∀ (b:Nat) k,H[b]? = some k → ∃ k1,H1[b]? = some k1∧reK f i nf J (n+b) k k1
 | _,[],[],_=>⟨rfl,fun b k h=>by simp at h⟩
 | n,k::r,k1::r1,⟨h1,h2⟩=>by
  obtain ⟨h3,h4⟩:=reL_spec h2
  refine ⟨by simp [h3],fun b q hb => ?_⟩
  cases b with
  | zero=>simp at hb; subst hb; exact ⟨k1,rfl,h1⟩
  | succ b =>
   obtain ⟨q1,g1,g2⟩:=h4 b q (by simpa using hb)
   exact ⟨q1,by simpa using g1,by rw [show n+(b+1)=n+1+b by omega]; exact g2⟩
theorem Ghost.joinL {w0:World} {H H1:List Blk} {α:Type} {T:TypeId} {e:Enc α} {wd:Nat} {xss:List (List α)} {wr:Bool} {zs:List α} (f i:Nat) (hf:H[f]? = some (.fam T e wd xss)) (hi:H[i]? = some (.vec wr T e [] wd zs))
 (hre:reL f i H.length xss.length 0 H H1):Ghost w0 H (H1++[.fam T e wd (xss++[zs])]):=by
 obtain ⟨h1,h2⟩:=reL_spec hre
 refine Ghost.join hf hi h1 fun b k hb => ?_
 obtain ⟨k1,h3,h4⟩:=h2 b k hb
 rw [Nat.zero_add] at h4
 exact ⟨k1,h3,h4⟩
theorem reK.keep {f i nf J b:Nat} {k:Blk} (h1:b≠f) (h2:b≠i):reK f i nf J b k k := .inr ⟨h1,h2,.inl rfl⟩
theorem reK.dead {f i nf J b:Nat} {k:Blk}:reK f i nf J b k .dead := .inl rfl
theorem reK.cells {f i nf J b:Nat} {T:TypeId} {cs cs1:List CV} (h1:b≠f) (h2:b≠i) (h:cs.map (tau f i nf J)=cs1):reK f i nf J b (.cells T cs) (.cells T cs1) := .inr ⟨h1,h2,.inr (.inl ⟨T,cs,rfl,by rw [h]⟩)⟩
theorem reK.vec {f i nf J b:Nat} {α β:Type} {wr:Bool} {T:TypeId} {e1:Enc α} {bs1:List Nat} {xs1:List α} {e2:Enc β} {bs2:List Nat} {xs2:List β} {wd:Nat} (h1:b≠f) (h2:b≠i) (h3:xs2.length=xs1.length) (h4:∀ x,(e2.f bs2 x).length=wd) (h5:flat e2 bs2 xs2=(flat e1 bs1 xs1).map (tau f i nf J)) :
 reK f i nf J b (.vec wr T e1 bs1 wd xs1) (.vec wr T e2 bs2 wd xs2) := .inr ⟨h1,h2,.inr (.inr ⟨α,β,wr,T,e1,bs1,xs1,e2,bs2,xs2,wd,rfl,rfl,h3,h4,h5⟩)⟩
def encF:Enc (Nat × Nat):=⟨fun bs x=>match bs with | [b]=>[.mem b x.1 x.2] | _=>[.val (.slice none 0 0)],fun σ bs bs' x hl hk=>by
 match bs,bs',hl with
 | [],[],_=>rfl
 | [b],[b'],_ =>
  have:=hk 0 (by simp)
  simp only [List.getD_cons_zero] at this
  simp only [List.map_cons,CV.ren,this,List.map_nil]
 | b::c::r,b'::c'::r',_=>rfl⟩
theorem encF_len (bs:List Nat) (x:Nat × Nat):(encF.f bs x).length=1:=by
 unfold encF
 simp only
 split <;> rfl
def turns (ls:List Nat):List (Nat × Nat):=ls.zipIdx.map fun x=>(x.2,x.1)
theorem turns_len (ls:List Nat):(turns ls).length=ls.length:=by simp [turns]
theorem turns_get (ls:List Nat) (i:Nat):(turns ls)[i]? = ls[i]?.map fun n=>(i,n):=by
 unfold turns
 rw [List.getElem?_map,List.getElem?_zipIdx]
 cases ls[i]? <;> simp
theorem turns_snoc (ls:List Nat) (n:Nat):turns (ls++[n])=turns ls++[(ls.length,n)]:=by simp [turns,List.zipIdx_append]
theorem flat_turns (f:Nat) (l:List (Nat × Nat)):flat encF [f] l=l.map fun x=>CV.mem f x.1 x.2:=by
 unfold flat
 induction l with
 | nil=>rfl
 | cons x r ih=>rw [List.flatMap_cons,ih]; rfl
theorem flat_tau (f i nf J:Nat) (l:List (Nat × Nat)):(flat encF [f] l).map (tau f i nf J)=flat encF [nf] l:=by
 rw [flat_turns,flat_turns,List.map_map]
 apply List.map_congr_left
 intro x _
 show (bif Nat.beq f f then CV.mem nf x.1 x.2 else CV.mem f x.1 x.2)=_
 rw [Nat.beq_refl]
 rfl
theorem callsA_base {P:Program} {w0:World} {f:FuncId} {args:List A1} {H:List Blk} {y:Value}
 (hcal:(match P.funcs[f]? with | some fn=>fn.body.isSome && !(fn.name == "runtime.NumGoroutine") | none=>false)=true)
 (h:∀ ρ w vs,RH w0 ρ H w→All2 (A1.R ρ) args vs → ∃ args',All2 (A1.R []) args' vs∧CallsA P w f args' [] fun r H'=>r = .o (.c (.val y))∧H'=[]) :
 CallsA P w0 f args H fun r H'=>r = .o (.c (.val y))∧H'=H:=by
 refine ⟨hcal,fun ρ w vs hR hA => ?_⟩
 obtain ⟨args',hA',hc⟩:=h ρ w vs hR hA
 have h0:RH w [] [] w:=⟨rfl,fun b k e h=>by simp at h,fun b b' k k' g h=>by simp at h,fun g hg=>by obtain ⟨b,k,h,_⟩:=hg; simp at h,Below.refl _ _⟩
 refine (hc.out [] w vs h0 hA').mono ?_
 rintro e w' ⟨r,H',ρ',v,⟨rfl,rfl⟩,rfl,hv,hR',_,hfr,_⟩
 have hb:=hR'.base
 have hold:∀ i,i<w.heap.size→w'.heap[i]? = w.heap[i]? := fun i hi=>hb.block i hi
 refine ⟨_,H,ρ,v,⟨rfl,rfl⟩,rfl,⟨hv.1,hv.2⟩,⟨hR.len,fun b k e hb' he=>(hR.ok b k e hb' he).keep fun g hg hl=>hold g ((hR.ok b k e hb' he).block hl hg),hR.inj,fun g hg=>⟨(hR.lo g hg).1,Nat.lt_of_lt_of_le (hR.lo g hg).2 hb.size⟩,?_⟩,⟨[],by simp⟩,?_,fun g hg => .inl hg⟩
 ·exact ⟨hb.os.trans hR.base.os,hb.tape.trans hR.base.tape,hb.output.trans hR.base.output,Nat.le_trans hR.base.size hb.size,fun k hk=>(hold k (Nat.lt_of_lt_of_le hk hR.base.size)).trans (hR.base.block k hk)⟩
 exact ⟨hb.os,hb.tape,hb.output,hb.size,fun i hi _=>hold i hi⟩
end Go.Vc
end
section
namespace Go.Vc
open Go.RowKit (Below)
def kill:List Blk→List Blk→Prop
 | [],[]=>True
 | .dead::r,_::r1=>kill r r1
 | k::r,k1::r1=>k=k1∧kill r r1
 | _,_=>False
def wake:List Blk→List Blk→List Blk→List Blk
 | .dead::r,k1::r1,_::r'=>k1::wake r r1 r'
 | _::r,_::r1,k'::r'=>k'::wake r r1 r'
 | _,_,r'=>r'
theorem kill_spec:∀ {Hd H:List Blk},kill Hd H→Hd.length=H.length ∧ ∀ (b:Nat) k,Hd[b]? = some k→k = .dead∨H[b]? = some k
 | [],[],_=>⟨rfl,fun b k h=>by simp at h⟩
 | [],_::_,h=>by simp [kill] at h
 | k::r,[],h=>by cases k <;> simp [kill] at h
 | k::r,k1::r1,h=>by
  have key:(k = .dead∨k=k1)∧kill r r1:=by
   cases k with
   | dead=>exact ⟨.inl rfl,h⟩
   | cells T cs=>exact ⟨.inr h.1,h.2⟩
   | vec wr T e bs wd xs=>exact ⟨.inr h.1,h.2⟩
   | fam T e wd xss=>exact ⟨.inr h.1,h.2⟩
  obtain ⟨h1,h2⟩:=kill_spec key.2
  refine ⟨by simp [h1],fun b q hb => ?_⟩
  cases b with
  | zero =>
   simp at hb
   subst hb
   rcases key.1 with h | h
   ·exact .inl h
   exact .inr (by simp [h])
  | succ b=>simpa using h2 b q (by simpa using hb)
theorem wake_spec:∀ {Hd H H':List Blk},Hd.length=H.length→Hd.length≤H'.length→(wake Hd H H').length=H'.length ∧ ∀ (b:Nat) k,(wake Hd H H')[b]? = some k →
 (b<Hd.length∧Hd[b]? = some .dead∧H[b]? = some k)∨(Hd[b]? ≠ some .dead∧H'[b]? = some k)
 | [],H,H',_,_=>⟨rfl,fun b k h => .inr ⟨by simp,h⟩⟩
 | _::_,[],_,h,_=>by simp at h
 | _::_,_::_,[],_,h=>by simp at h
 | k0::r,k1::r1,k2::r2,hl,hl'=>by
  obtain ⟨h1,h2⟩:=wake_spec (Hd:=r) (H:=r1) (H':=r2) (by simpa using hl) (by simpa using hl')
  cases hd:k0.live with
  | false =>
   obtain rfl:k0 = .dead:=by cases k0 <;> first | rfl | cases hd
   refine ⟨by simp [wake,h1],fun b k hb => ?_⟩
   cases b with
   | zero=>exact .inl ⟨by simp,rfl,by simpa [wake] using hb⟩
   | succ b =>
    rcases h2 b k (by simpa [wake] using hb) with ⟨a,c,d⟩ | ⟨a,c⟩
    ·exact .inl ⟨by simpa using a,by simpa using c,by simpa using d⟩
    exact .inr ⟨by simpa using a,by simpa using c⟩
  | true =>
   have hw:wake (k0::r) (k1::r1) (k2::r2)=k2::wake r r1 r2:=by cases k0 <;> first | rfl | cases hd
   rw [hw]
   refine ⟨by simp [h1],fun b k hb => ?_⟩
   cases b with
   | zero=>exact .inr ⟨fun h=>by simp at h; rw [h] at hd; exact Bool.noConfusion hd,by simpa using hb⟩
   | succ b =>
    rcases h2 b k (by simpa using hb) with ⟨a,c,d⟩ | ⟨a,c⟩
    ·exact .inl ⟨by simpa using a,by simpa using c,by simpa using d⟩
    exact .inr ⟨by simpa using a,by simpa using c⟩
theorem CallsA.wake {P:Program} {w0:World} {f:FuncId} {args:List A1} {Hd H:List Blk} {Rd R:AV→List Blk→Prop} (hk:kill Hd H) (h:CallsA P w0 f args Hd Rd) (hR:∀ r H',Rd r H'→R r (Go.Vc.wake Hd H H')):CallsA P w0 f args H R:=by
 obtain ⟨k1,k2⟩:=kill_spec hk
 refine ⟨h.cal,fun ρ w vs hRH hA => ?_⟩
 have hget:∀ (b:Nat) k,Hd[b]? = some k→k.live=true→H[b]? = some k:=fun b k hb hl=>by
  rcases k2 b k hb with rfl | h
  ·cases hl
  exact h
 have hR0:RH w0 ρ Hd w:=⟨by rw [hRH.len,k1],fun b k e hb he=>(k2 b k hb).elim (fun h=>h ▸ trivial) (fun h=>hRH.ok b k e h he),fun b b' k k' g hb hb' l l' a a'=>hRH.inj b b' k k' g (hget b k hb l) (hget b' k' hb' l') l l' a a',fun g ⟨b,k,hb,hl,hg⟩=>hRH.lo g ⟨b,k,hget b k hb hl,hl,hg⟩,hRH.base⟩
 have himg0:∀ g,image ρ Hd g→image ρ H g:=fun g ⟨b,k,hb,hl,hg⟩=>⟨b,k,hget b k hb hl,hl,hg⟩
 refine (h.out ρ w vs hR0 hA).mono fun e w' he => ?_
 obtain ⟨r,H',ρ',v,hr,rfl,hv,hRH',⟨t,rfl⟩,hfr,himg⟩:=he
 have hlt:Hd.length≤H'.length:=by
  have:=hRH'.len
  have:=hR0.len
  simp at *
  omega
 obtain ⟨w1,w2⟩:=wake_spec k1 hlt
 -- a block that was kept
 have hkeep:∀ (b:Nat) k,b<Hd.length→Hd[b]? = some .dead→H[b]? = some k→k.live=true → ∀ g,Ren.own (ρ ++ t) b g → ρ.own b g ∧ ¬ image ρ Hd g∧g<w.heap.size:=by
  intro b k hb hd hk hl g hg
  rw [own_append (by rw [hRH.len,← k1]; exact hb)] at hg
  refine ⟨hg,fun ⟨b',k',hb',hl',hg'⟩ => ?_,(hRH.lo g ⟨b,k,hk,hl,hg⟩).2⟩
  have:=hRH.inj b b' k k' g hk (hget b' k' hb' hl') hl hl' hg hg'
  subst this
  rw [hd] at hb'
  cases hb'
  cases hl'
 refine ⟨r,_,ρ ++ t,v,hR r H' hr,rfl,hv,⟨by rw [w1]; exact hRH'.len,fun b k e hb he => ?_,fun b b' k k' g hb hb' l l' a a' => ?_,fun g hg => ?_,hRH'.base⟩,⟨t,rfl⟩,⟨hfr.1,hfr.2.1,hfr.2.2.1,hfr.2.2.2.1,fun i hi hn=>hfr.2.2.2.2 i hi fun him=>hn (himg0 i him)⟩,fun g hg => ?_⟩
 ·rcases w2 b k hb with ⟨a,c,d⟩ | ⟨_,c⟩
  ·have hbl:b < ρ.length:=by rw [hRH.len,← k1]; exact a
   rw [List.getElem?_append_left hbl] at he
   cases hl:k.live with
   | false =>
    obtain rfl:k = .dead:=by cases k <;> first | rfl | cases hl
    trivial
   | true =>
    refine ((hRH.ok b k e d he).keep fun g hg _ => ?_).more t
    obtain ⟨h1,h2,h3⟩:=hkeep b k a c d hl g (by rw [own_append hbl]; exact own_of he hg)
    exact hfr.2.2.2.2 g h3 h2
  exact hRH'.ok b k e c he
 ·rcases w2 b k hb with ⟨a1,c1,d1⟩ | ⟨_,c1⟩ <;> rcases w2 b' k' hb' with ⟨a2,c2,d2⟩ | ⟨_,c2⟩
  ·obtain ⟨o1,_,_⟩:=hkeep b k a1 c1 d1 l g a
   obtain ⟨o2,_,_⟩:=hkeep b' k' a2 c2 d2 l' g a'
   exact hRH.inj b b' k k' g d1 d2 l l' o1 o2
  ·obtain ⟨_,o2,o3⟩:=hkeep b k a1 c1 d1 l g a
   rcases himg g ⟨b',k',c2,l',a'⟩ with h | h
   ·exact absurd h o2
   omega
  ·obtain ⟨_,o2,o3⟩:=hkeep b' k' a2 c2 d2 l' g a'
   rcases himg g ⟨b,k,c1,l,a⟩ with h | h
   ·exact absurd h o2
   omega
  exact hRH'.inj b b' k k' g c1 c2 l l' a a'
 ·obtain ⟨b,k,hb,hl,hg⟩:=hg
  rcases w2 b k hb with ⟨a,c,d⟩ | ⟨_,c⟩
  ·obtain ⟨o1,_,o3⟩:=hkeep b k a c d hl g hg
   exact ⟨(hRH.lo g ⟨b,k,d,hl,o1⟩).1,Nat.lt_of_lt_of_le o3 hfr.2.2.2.1⟩
  exact hRH'.lo g ⟨b,k,c,hl,hg⟩
 obtain ⟨b,k,hb,hl,hg⟩:=hg
 rcases w2 b k hb with ⟨a,c,d⟩ | ⟨_,c⟩
 ·exact .inl ⟨b,k,d,hl,(hkeep b k a c d hl g hg).1⟩
 rcases himg g ⟨b,k,c,hl,hg⟩ with h | h
 ·exact .inl (himg0 g h)
 exact .inr h
theorem CallsA.liftK {P:Program} {w0:World} {f:FuncId} {args0 args:List A1} {H0 H:List Blk} {R0 R:AV→List Blk→Prop} (σ:List Nat) (Hd:List Blk) (hk:kill Hd H) (hσn:nodupB σ = true) (hemb:embH σ Hd H0 σ) (hargs:args0.map (A1.ren σ)=args) (h:CallsA P w0 f args0 H0 R0)
 (hR:∀ r0 H0',R0 r0 H0'→R (r0.ren (widen σ Hd H0')) (Go.Vc.wake Hd H (putAll σ (H0'.map (Blk.ren (widen σ Hd H0'))) Hd))):CallsA P w0 f args H R :=
 CallsA.wake (Rd:=fun r H' => ∃ r0 H0',R0 r0 H0'∧r=r0.ren (widen σ Hd H0')∧H'=putAll σ (H0'.map (Blk.ren (widen σ Hd H0'))) Hd) hk
  (CallsA.lift σ hσn hemb hargs h fun r0 H0' hr=>⟨r0,H0',hr,rfl,rfl⟩) (by
   rintro _ _ ⟨r0,H0',hr,rfl,rfl⟩
   exact hR r0 H0' hr)
end Go.Vc
end
