/- Joined: VmB,IrA. -/
import Derived.Test.YtokkphocaloelaaGreatDoorBA
section
section
namespace Go.Vc
open Go.RowKit (Below)
section
variable {P:Program} {w0:World} {cx:Cx} {ρ:Ren} {s:S} {K:AV → S → Prop} {a:Act} {o:Oper} {w:World}

theorem cell_heap {w':World} (h:w'.heap = w.heap) (p:Addr):w'.cell? p = w.cell? p := by simp [World.cell?,h]
theorem cells_run {g off:Nat} {arr:Array Value} {T:TypeId} {fz:Nat × Nat} {cs:List CV} {n:Nat} (hg:w.heap[g]? = some (.cells arr T fz)) (hA:All2 (CV.R ρ) cs arr.toList) (hle:off + n ≤ cs.length) :
   ∃ vs,All2 (CV.R ρ) ((cs.drop off).take n) vs ∧ vs.length = n ∧ ∀ w':World,w'.heap = w.heap → ∀ j u,vs[j]? = some u → w'.cell? ((⟨g,off,none⟩:Addr).add j) = some u := by
 have hA2 := (hA.drop_ off).take_ n
 refine ⟨_,hA2,?_,fun w' hw j u hu => ?_⟩
 · rw [← hA2.length,List.length_take,List.length_drop]; omega
 · rw [cell_heap hw,addr_add,cell_at hg]
   rw [List.getElem?_take] at hu
   split at hu
   · rw [List.getElem?_drop] at hu
     simpa using hu
   · cases hu
theorem src_sound (hC:RH w0 ρ s.H w) {α:Type} {e:Enc α} {bs:List Nat} {wd:Nat} (hlen:∀ x,(e.f bs x).length = wd) {y:CV} {ys:List α} {v:Value} (hR:y.R ρ v) (h:src w0 s.H e bs wd y ys) :
   ∃ news,All2 (CV.R ρ) (flat e bs ys) news ∧ (∀ w',(Builtin.lenOf v).run P w' = .ok ys.length w') ∧ (∀ w',w'.heap = w.heap → (Builtin.firstCells wd ys.length v).run P w' = .ok news.toArray w') := by
 have hfl := flat_length hlen ys
 unfold src at h
 split at h
 · obtain ⟨rfl,_⟩ := hR
   subst h
   exact ⟨[],.nil,fun w' => rfl,fun w' _ => rfl⟩
 · rename_i ad n c
   obtain ⟨rfl,_⟩ := hR
   obtain ⟨hn,h⟩ := h
   have hx:∀ (l:List CV) (k:Nat),(∀ i x,l[i]? = some x → ∃ v,x = CV.val v ∧ v.oneCell' = true ∧ w0.cell? (ad.add (k + i)) = some v) →
       ∃ news,All2 (CV.R ρ) l news ∧ ∀ j u,news[j]? = some u → w0.cell? (ad.add (k + j)) = some u := by
     intro l
     induction l with
     | nil => intro k _; exact ⟨[],.nil,by simp⟩
     | cons x r ih =>
       intro k hk
       obtain ⟨v,rfl,h1,h2⟩ := hk 0 x rfl
       obtain ⟨news,hA,hc⟩ := ih (k + 1) fun i x hi => by
         obtain ⟨v,e1,e2,e3⟩ := hk (i + 1) x (by simpa using hi)
         exact ⟨v,e1,e2,by rw [show k + 1 + i = k + (i + 1) from by omega]; exact e3⟩
       refine ⟨v :: news,.cons ⟨rfl,h1⟩ hA,fun j u hu => ?_⟩
       cases j with
       | zero => simp at hu; subst hu; exact h2
       | succ j => rw [show k + (j + 1) = k + 1 + j from by omega]; exact hc j u (by simpa using hu)
   obtain ⟨news,hA,hc⟩ := hx (flat e bs ys) 0 (by simpa using h)
   refine ⟨news,hA,fun w' => by simp [Builtin.lenOf,hn],fun w' hw => run_firstCells_some w' _ _ _ _ _ _ (by rw [← hA.length,hfl]) fun j u hu => ?_⟩
   have h0 := hc j u hu
   rw [Nat.zero_add] at h0
   rw [cell_heap hw,hC.base.cell (World.block_lt_of_cell? w0 _ h0)]
   exact h0
 · rename_i b
   obtain ⟨rfl,_⟩ := hR
   obtain ⟨hn,hw1,h⟩ := h
   refine ⟨b.data.toList.map fun x => .int .u8 x.toNat,?_,fun w' => by simp [Builtin.lenOf,hn],fun w' _ => ?_⟩
   · rw [h]
     generalize b.data.toList = l
     induction l with
     | nil => exact .nil
     | cons x r ih => exact .cons ⟨rfl,rfl⟩ ih
   · have hb:(b.extract 0 b.size) = b := ByteArray.extract_zero_size
     simp only [Builtin.firstCells,hn,hb,Sem.run_pure]
     congr 1
     apply Array.toList_inj.1
     simp
 · rename_i b n
   split at h
   · rename_i β wr T e' bs' wd' zs hb
     obtain ⟨rfl,hnz,hn,h⟩ := h
     obtain ⟨e1,hρ,h0,hlen',h2⟩ := hC.get hb
     obtain ⟨e1',he1,hR⟩ := hR
     rw [hρ] at he1
     cases he1
     rcases h2 with ⟨h2,hz,_⟩ | ⟨g',arr,fz,h2,h3,h4,h5,hc,⟨sp,h6,h7⟩,h8⟩
     · have hn0:n = 0 := by subst hz; simpa using hnz
       subst hn0
       have hy0:ys = [] := List.eq_nil_of_length_eq_zero hn
       subst hy0
       rcases hR with ⟨g,hg,_,_⟩ | ⟨_,_,rfl⟩
       · rw [h2] at hg; cases hg
       · exact ⟨[],.nil,fun w' => rfl,fun w' _ => rfl⟩
     · rcases hR with ⟨g,hg,rfl,_⟩ | ⟨hg,_⟩
       · rw [h2] at hg
         cases hg
         have hle:0 + n * wd' ≤ (flat e' bs' zs ++ sp).length := by
           rw [List.length_append,flat_length hlen']
           have := Nat.mul_le_mul_right wd' hnz
           omega
         obtain ⟨vs,hA,hl,hc'⟩ := cells_run (off := 0) h3 h6 hle
         have hseg:((flat e' bs' zs ++ sp).drop 0).take (n * wd') = flat e bs ys := by
           rw [List.drop_zero,List.take_append_of_le_length (by rw [flat_length hlen']; exact Nat.mul_le_mul_right _ hnz),flat_take hlen' n zs hnz,h]
         rw [hseg] at hA
         exact ⟨vs,hA,fun w' => by simp [Builtin.lenOf,hn],fun w' hw => run_firstCells_some w' _ _ _ _ _ _ (by rw [hl,hn]) (hc' w' hw)⟩
       · rw [h2] at hg; cases hg
   · exact h.elim
 · rename_i b wd1 o' n c
   obtain ⟨g,hg,rfl,hncap⟩ := hR
   split at h
   · rename_i T cs hb
     obtain ⟨rfl,hn,h⟩ := h
     obtain ⟨h1,h⟩ := dropF_spec h
     obtain ⟨h2,h⟩ := takeF_spec h
     obtain ⟨e1,hρ,g',arr,k1,k2,k3⟩ := hC.get hb
     rw [at_of_get hρ,k1] at hg
     cases hg
     obtain ⟨vs,hA,hl,hc'⟩ := cells_run (off := o' * wd1) (n := n * wd1) k2 k3 (by simp at h2; omega)
     rw [← h] at hA
     exact ⟨vs,hA,fun w' => by simp [Builtin.lenOf,hn],fun w' hw => run_firstCells_some w' _ _ _ _ _ _ (by rw [hl,hn]) (hc' w' hw)⟩
   · rename_i β wr T e' bs' wd' zs hb
     obtain ⟨rfl,rfl,hnz,hn,h⟩ := h
     obtain ⟨e1,hρ,h0,hlen',h2⟩ := hC.get hb
     rcases h2 with ⟨h2,hz,_⟩ | ⟨g',arr,fz,h2,h3,h4,h5,hc,⟨sp,h6,h7⟩,h8⟩
     · rw [at_of_get hρ,h2] at hg; cases hg
     · rw [at_of_get hρ,h2] at hg
       cases hg
       have hm := Nat.mul_le_mul_right wd' hnz
       rw [Nat.add_mul] at hm
       have hle:o' * wd' + n * wd' ≤ (flat e' bs' zs ++ sp).length := by
         rw [List.length_append,flat_length hlen']
         omega
       obtain ⟨vs,hA,hl,hc'⟩ := cells_run (off := o' * wd') h3 h6 hle
       have hseg:((flat e' bs' zs ++ sp).drop (o' * wd')).take (n * wd') = flat e bs ys := by
         have e2:(flat e' bs' (zs.drop o')).length = (zs.length - o') * wd' := by rw [flat_length hlen',List.length_drop]
         have e3:n ≤ (zs.drop o').length := by rw [List.length_drop]; omega
         rw [List.drop_append_of_le_length (by rw [flat_length hlen']; omega),flat_drop hlen' o' zs (by omega),List.take_append_of_le_length (by rw [flat_length hlen']; exact Nat.mul_le_mul_right _ e3),flat_take hlen' n _ e3,h]
       rw [hseg] at hA
       exact ⟨vs,hA,fun w' => by simp [Builtin.lenOf,hn],fun w' hw => run_firstCells_some w' _ _ _ _ _ _ (by rw [hl,hn]) (hc' w' hw)⟩
   · exact h.elim
 · rename_i b j n
   split at h
   · rename_i β T e' wd' xss hb
     obtain ⟨rfl,zs,hzs,hnz,hn,h⟩ := h
     obtain ⟨e1,hρ,h0,hlen',h1,ms,h2,h3,h4,h5⟩ := hC.get hb
     obtain ⟨e1',ms',m,he1,hms,hj,hR⟩ := hR
     rw [hρ] at he1
     cases he1
     have := encM_inj (hms.trans h2.symm)
     subst this
     rcases h5 j m zs hj hzs with ⟨k2,hz,_⟩ | ⟨g',arr,fz,k2,k3,k4,k5,hc,sp,h6,h7⟩
     · have hn0:n = 0 := by subst hz; simpa using hnz
       subst hn0
       have hy0:ys = [] := List.eq_nil_of_length_eq_zero hn
       subst hy0
       rcases hR with ⟨g,hg,_,_⟩ | ⟨_,_,rfl⟩
       · rw [k2] at hg; cases hg
       · exact ⟨[],.nil,fun w' => rfl,fun w' _ => rfl⟩
     · rcases hR with ⟨g,hg,rfl,_⟩ | ⟨hg,_⟩
       · rw [k2] at hg
         cases hg
         have hle:0 + n * wd' ≤ (flat e' [] zs ++ sp).length := by
           rw [List.length_append,flat_length hlen']
           have := Nat.mul_le_mul_right wd' hnz
           omega
         obtain ⟨vs,hA,hl,hc'⟩ := cells_run (off := 0) k3 h6 hle
         have hseg:((flat e' [] zs ++ sp).drop 0).take (n * wd') = flat e bs ys := by
           rw [List.drop_zero,List.take_append_of_le_length (by rw [flat_length hlen']; exact Nat.mul_le_mul_right _ hnz),flat_take hlen' n zs hnz,h]
         rw [hseg] at hA
         exact ⟨vs,hA,fun w' => by simp [Builtin.lenOf,hn],fun w' hw => run_firstCells_some w' _ _ _ _ _ _ (by rw [hl,hn]) (hc' w' hw)⟩
       · rw [k2] at hg; cases hg
   · exact h.elim
 · exact h.elim
theorem run_append_gen {t u ty e:TypeId} {du:TypeDesc} {i:TypeInfo} {z:Value} (ht:P.underlying t = some (.slice e)) (hu:P.underlying u = some du) (hdu:srcT du = true) (hi:P.info? e = some i) (hz:i.zero = some z) (hzs:z.cells.size = i.size)
   {v x:Value} {n m:Nat} {xs news:List Value} (hown:w.ownsRow 0 e i.size v n xs) (hL:∀ w',(Builtin.lenOf x).run P w' = .ok m w') (hF:∀ w',w'.heap = w.heap → (Builtin.firstCells i.size m x).run P w' = .ok news.toArray w')
   (hl:news.length = m * i.size) (h1:∀ u ∈ news,u.oneCell' = true) (h63:n + m ≤ maxLen) (hbytes:(n + m) * i.bytes ≤ 140737488355328)
   (hz1:∀ u ∈ z.cells.toList,u.oneCell' = true) (hx1:∀ u ∈ xs,u.oneCell' = true) (hold:∀ g cur,v.ownBlock = some g → w.heap[g]? = some (.cells cur e (0,0)) → ∀ u ∈ cur.toList,u.oneCell' = true) :
   ∃ v' w',(Builtin.append_ #[t,u] ty #[v,x]).run P w = .ok v' w' ∧ w'.ownsRow 0 e i.size v' (n + m) (xs ++ news) ∧ w.grownBy w' v.ownBlock ∧ (v'.ownBlock = v.ownBlock ∨ v'.ownBlock = some w.heap.size) ∧
     ∀ g cur fz,v'.ownBlock = some g → w'.heap[g]? = some (.cells cur e fz) → ∀ u ∈ cur.toList,u.oneCell' = true := by
 have hsmall:n + m ≤ 9223372036854775807 := by simp only [maxLen] at h63; omega
 have hlen:(xs ++ news).length = (n + m) * i.size := by rw [List.length_append,hown.1,hl,Nat.add_mul]
 have hd2:(∃ e2,du = .slice e2) ∨ du = .string := by cases du <;> first | exact .inl ⟨_,rfl⟩ | exact .inr rfl | cases hdu
 have grown:∀ (old:Nat),old < n + m → ∀ (row:Option Nat),
     (w.drew.alloc (.cells (xs.toArray ++ news.toArray ++ Builtin.zeroCells z.cells (grownCap w (n + m) old e - (n + m))) e)).ownsRow 0 e i.size
       (.slice (some ⟨w.heap.size,0,none⟩) (n + m) (grownCap w (n + m) old e)) (n + m) (xs ++ news) ∧
     w.grownBy (w.drew.alloc (.cells (xs.toArray ++ news.toArray ++ Builtin.zeroCells z.cells (grownCap w (n + m) old e - (n + m))) e)) row := by
   intro old ho row
   have hge := grownCap_ge w (n + m) old e
   have hcm:grownCap w (n + m) old e ≤ maxLen := grownCap_le_maxLen w (n + m) old e h63
   refine ⟨⟨hlen,.inr ⟨w.heap.size,_,_,rfl,Nat.zero_le _,heap_alloc_new w.drew _,hge,hcm,?_,?_⟩⟩,⟨rfl,rfl,rfl,by simp,fun k hk _ => heap_alloc_old w.drew _ hk⟩⟩
   · simp only [Array.size_append,List.size_toArray,size_zeroCells,hzs,hown.1,hl,← Nat.add_mul]
     congr 1
     omega
   · simp only [Array.toList_append,List.append_assoc]
     rw [← List.append_assoc,← hlen]
     exact List.take_left
 have hzc:∀ k,∀ u ∈ (Builtin.zeroCells z.cells k).toList,u.oneCell' = true := by
   intro k u hu
   simp only [Builtin.zeroCells,Array.toList_map,List.mem_map,Array.toList_range,List.mem_range] at hu
   obtain ⟨j,hj,rfl⟩ := hu
   have hz0:0 < z.cells.size := by
     rcases Nat.eq_zero_or_pos z.cells.size with h0 | h0
     · rw [h0] at hj; omega
     · exact h0
   have hm := Nat.mod_lt j hz0
   rw [getElem!_pos z.cells _ hm]
   exact hz1 _ (by simp)
 have hgone:∀ old g cur fz,Value.ownBlock (.slice (some ⟨w.heap.size,0,none⟩) (n + m) (grownCap w (n + m) old e)) = some g →
     (w.drew.alloc (.cells (xs.toArray ++ news.toArray ++ Builtin.zeroCells z.cells (grownCap w (n + m) old e - (n + m))) e)).heap[g]? = some (.cells cur e fz) → ∀ u ∈ cur.toList,u.oneCell' = true := by
   intro old g cur fz hg hh u hu
   simp only [Value.ownBlock,Option.some.injEq] at hg
   subst hg
   have hh' := heap_alloc_new w.drew (.cells (xs.toArray ++ news.toArray ++ Builtin.zeroCells z.cells (grownCap w (n + m) old e - (n + m))) e)
   have hsz':w.drew.heap.size = w.heap.size := rfl
   rw [hsz'] at hh'
   rw [hh'] at hh
   simp only [Option.some.injEq,Obj.cells.injEq] at hh
   obtain ⟨rfl,_,_⟩ := hh
   simp only [Array.toList_append,List.mem_append] at hu
   rcases hu with (hu | hu) | hu
   · exact hx1 u hu
   · exact h1 u hu
   · exact hzc _ u hu
 -- what the growing arm comes to
 have grow:∀ (base:Option Addr) (cap:Nat),v = .slice base n cap → cap < n + m → (∀ w',w'.heap = w.heap → (Builtin.firstCells i.size n v).run P w' = .ok xs.toArray w') →
     (Builtin.append_ #[t,u] ty #[v,x]).run P w = .ok (.slice (some ⟨w.heap.size,0,none⟩) (n + m) (grownCap w (n + m) cap e)) (w.drew.alloc (.cells (xs.toArray ++ news.toArray ++ Builtin.zeroCells z.cells (grownCap w (n + m) cap e - (n + m))) e)) := by
   intro base cap hv hcap hfo
   have hn:¬ (n + m ≤ cap) := by omega
   have h63':¬ (9223372036854775807 < ((n:Int) + (m:Int))) := by omega
   have hfit := growslice_fits hcap hbytes
   have h48':¬ (281474976710656 < Builtin.nextslicecap (n + m) cap * i.bytes) := by omega
   have hF' := hF w.drew rfl
   have hfo' := hfo w.drew rfl
   subst hv
   rcases hd2 with ⟨e2,rfl⟩ | rfl
   · simp [Builtin.append_,run_underlying ht,run_underlying hu,sizeOf,typeInfo,zeroValue,hi,hz,hL,hn,h63',h48',Question.forced,hF',hfo',newRow,grownCap]
     try (congr 2; apply Array.ext'; simp [List.append_assoc])
   · simp [Builtin.append_,run_underlying ht,run_underlying hu,sizeOf,typeInfo,zeroValue,hi,hz,hL,hn,h63',h48',Question.forced,hF',hfo',newRow,grownCap]
     try (congr 2; apply Array.ext'; simp [List.append_assoc])
 rcases hown.2 with ⟨rfl,rfl⟩ | ⟨g,cap,cur,rfl,hbg,hg,hnc,hcm,hcs,htake⟩
 · have hx:xs = [] := List.eq_nil_of_length_eq_zero (by simpa using hown.1)
   subst hx
   by_cases hm:m = 0
   · subst hm
     have hn:news = [] := List.eq_nil_of_length_eq_zero (by simpa using hl)
     subst hn
     have hF' := hF w rfl
     refine ⟨.slice none 0 0,w,?_,World.ownsRow_nil w 0 e i.size,⟨rfl,rfl,rfl,Nat.le_refl _,fun _ _ _ => rfl⟩,Or.inl rfl,fun g cur fz hg => by simp [Value.ownBlock] at hg⟩
     rcases hd2 with ⟨e2,rfl⟩ | rfl <;> simp [Builtin.append_,run_underlying ht,run_underlying hu,sizeOf,typeInfo,hi,hL,hF']
   · have hr := grow none 0 rfl (by omega) (fun w' _ => by simp [Builtin.firstCells])
     have hgr := grown 0 (by omega) (Value.ownBlock (.slice none 0 0))
     exact ⟨_,_,hr,hgr.1,hgr.2,Or.inr rfl,hgone 0⟩
 · by_cases hroom:n + m ≤ cap
   · have hfit:n * i.size + news.length ≤ cur.size := by rw [hl,hcs,← Nat.add_mul]; exact Nat.mul_le_mul_right _ hroom
     have hst := run_storeCells_at P g (n * i.size) e news 0 cur w hg (by simpa using hfit) h1
     simp only [Nat.add_zero] at hst
     have hF' := hF w rfl
     refine ⟨.slice (some ⟨g,0,none⟩) (n + m) cap,w.setRow g (cur.toList.take (n * i.size) ++ news ++ cur.toList.drop (n * i.size + news.length)).toArray,?_,⟨hlen,.inr ⟨g,cap,_,rfl,hbg,setRow_heap w g cur _ e _ hg,hroom,hcm,?_,?_⟩⟩,⟨rfl,rfl,rfl,by simp,fun k _ hk => setRow_other w g k _ (fun e => hk (by simp [Value.ownBlock,e]))⟩,Or.inl rfl,?_⟩
     · rcases hd2 with ⟨e2,rfl⟩ | rfl <;> simp [Builtin.append_,run_underlying ht,run_underlying hu,sizeOf,typeInfo,hi,hL,hroom,hF',Addr.add_lit,hst]
     · simp only [List.size_toArray,List.length_append,List.length_take,List.length_drop,Array.length_toList]
       omega
     · rw [htake,← hlen]
       exact List.take_left
     · intro g' cur' fz hg' hh u hu
       simp only [Value.ownBlock,Option.some.injEq] at hg'
       subst hg'
       rw [setRow_heap w g cur _ e _ hg] at hh
       simp only [Option.some.injEq,Obj.cells.injEq] at hh
       obtain ⟨rfl,_,_⟩ := hh
       have ho := hold g cur rfl hg
       simp only [List.mem_append] at hu
       rcases hu with (hu | hu) | hu
       · exact ho u (List.mem_of_mem_take hu)
       · exact h1 u hu
       · exact ho u (List.mem_of_mem_drop hu)
   · have holds:∀ j u,xs[j]? = some u → w.cell? ((⟨g,0,none⟩:Addr).add j) = some u := hown.cells (g := g) rfl
     have hr := grow (some ⟨g,0,none⟩) cap rfl (by omega) (fun w' hw => run_firstCells_some w' _ _ _ _ _ _ hown.1 fun j u hu => by rw [cell_heap hw]; exact holds j u hu)
     have hgr := grown cap (by omega) (Value.ownBlock (.slice (some ⟨g,0,none⟩) n cap))
     exact ⟨_,_,hr,hgr.1,hgr.2,Or.inr rfl,hgone cap⟩
theorem run_append_off {t u ty e:TypeId} {du:TypeDesc} {i:TypeInfo} {z:Value} (ht:P.underlying t = some (.slice e)) (hu:P.underlying u = some du) (hdu:srcT du = true) (hi:P.info? e = some i) (hz:i.zero = some z) (hzs:z.cells.size = i.size)
   {x:Value} {g p o n m c:Nat} {cur:Array Value} {xs news:List Value} (hg:w.heap[g]? = some (.cells cur e (0,0))) (hcs:cur.size = (o + c) * i.size) (hnc:n ≤ c) (hp:0 < c → p = o * i.size)
   (hxs:(cur.toList.drop (o * i.size)).take (n * i.size) = xs) (ho:∀ u ∈ cur.toList,u.oneCell' = true)
   (hL:∀ w',(Builtin.lenOf x).run P w' = .ok m w') (hF:∀ w',w'.heap = w.heap → (Builtin.firstCells i.size m x).run P w' = .ok news.toArray w')
   (hl:news.length = m * i.size) (h1:∀ u ∈ news,u.oneCell' = true) (h63:n + m ≤ maxLen) (hbytes:(n + m) * i.bytes ≤ 140737488355328) (hz1:∀ u ∈ z.cells.toList,u.oneCell' = true) :
   (n + m ≤ c ∧ (Builtin.append_ #[t,u] ty #[.slice (some ⟨g,p,none⟩) n c,x]).run P w = .ok (.slice (some ⟨g,p,none⟩) (n + m) c) (w.setRow g (cur.toList.take ((o + n) * i.size) ++ news ++ cur.toList.drop ((o + n) * i.size + news.length)).toArray)) ∨
   ∃ v' w',(Builtin.append_ #[t,u] ty #[.slice (some ⟨g,p,none⟩) n c,x]).run P w = .ok v' w' ∧ w'.ownsRow 0 e i.size v' (n + m) (xs ++ news) ∧ w.grownBy w' none ∧ v'.ownBlock = some w.heap.size ∧
     ∀ g cur fz,v'.ownBlock = some g → w'.heap[g]? = some (.cells cur e fz) → ∀ u ∈ cur.toList,u.oneCell' = true := by
 have hsmall:n + m ≤ 9223372036854775807 := by simp only [maxLen] at h63; omega
 have hm1:n * i.size ≤ c * i.size := Nat.mul_le_mul_right _ hnc
 have hcs':cur.size = o * i.size + c * i.size := by rw [hcs,Nat.add_mul]
 have hxl:xs.length = n * i.size := by rw [← hxs,List.length_take,List.length_drop,Array.length_toList]; omega
 have hx1:∀ u ∈ xs,u.oneCell' = true := fun u hu => ho u (List.mem_of_mem_drop (List.mem_of_mem_take (by rw [hxs]; exact hu)))
 have hlen:(xs ++ news).length = (n + m) * i.size := by rw [List.length_append,hxl,hl,Nat.add_mul]
 have hd2:(∃ e2,du = .slice e2) ∨ du = .string := by cases du <;> first | exact .inl ⟨_,rfl⟩ | exact .inr rfl | cases hdu
 by_cases hroom:n + m ≤ c
 · refine .inl ⟨hroom,?_⟩
   have hF' := hF w rfl
   have hmm:(n + m) * i.size ≤ c * i.size := Nat.mul_le_mul_right _ hroom
   rw [Nat.add_mul] at hmm
   have hst:(storeCells ⟨g,p + n * i.size,none⟩ news 0).run P w = .ok () (w.setRow g (cur.toList.take ((o + n) * i.size) ++ news ++ cur.toList.drop ((o + n) * i.size + news.length)).toArray) := by
     by_cases hc:c = 0
     · have hm:m = 0 := by omega
       subst hm
       have hn:news = [] := List.eq_nil_of_length_eq_zero (by simpa using hl)
       subst hn
       simp only [storeCells,List.append_nil,List.length_nil,Nat.add_zero,List.take_append_drop,Array.toArray_toList]
       rw [setRow_self w g cur e (0,0) hg]
       rfl
     · rw [hp (by omega)]
       have h2 := run_storeCells_at P g (o * i.size + n * i.size) e news 0 cur w hg (by omega) h1
       rw [Nat.add_mul]
       simpa only [Nat.add_zero] using h2
   rcases hd2 with ⟨e2,rfl⟩ | rfl <;> simp [Builtin.append_,run_underlying ht,run_underlying hu,sizeOf,typeInfo,hi,hL,hroom,hF',Addr.add_lit,hst]
 · refine .inr ?_
   have hcap:c < n + m := by omega
   have hge := grownCap_ge w (n + m) c e
   have hcm := grownCap_le_maxLen w (n + m) c e h63
   have holds:∀ w':World,w'.heap = w.heap → (Builtin.firstCells i.size n (.slice (some ⟨g,p,none⟩) n c)).run P w' = .ok xs.toArray w' := by
     intro w' hw
     refine run_firstCells_some w' _ _ _ _ _ _ hxl fun j u hu => ?_
     have hj:j < n * i.size := by rw [← hxl]; exact (List.getElem?_eq_some_iff.1 hu).1
     have hc0:0 < c := by
       rcases Nat.eq_zero_or_pos c with h | h
       · have:n = 0 := by omega
         subst this
         omega
       · exact h
     rw [cell_heap hw,addr_add,cell_at hg,hp hc0]
     rw [← hxs,List.getElem?_take,if_pos hj,List.getElem?_drop] at hu
     simpa using hu
   have hn:¬ (n + m ≤ c) := hroom
   have h63':¬ (9223372036854775807 < ((n:Int) + (m:Int))) := by omega
   have hfit := growslice_fits hcap hbytes
   have h48':¬ (281474976710656 < Builtin.nextslicecap (n + m) c * i.bytes) := by omega
   have hF' := hF w.drew rfl
   have hfo' := holds w.drew rfl
   have hzc:∀ k,∀ u ∈ (Builtin.zeroCells z.cells k).toList,u.oneCell' = true := by
     intro k u hu
     simp only [Builtin.zeroCells,Array.toList_map,List.mem_map,Array.toList_range,List.mem_range] at hu
     obtain ⟨j,hj,rfl⟩ := hu
     have hz0:0 < z.cells.size := by
       rcases Nat.eq_zero_or_pos z.cells.size with h0 | h0
       · rw [h0] at hj; omega
       · exact h0
     have hm := Nat.mod_lt j hz0
     rw [getElem!_pos z.cells _ hm]
     exact hz1 _ (by simp)
   have hr:(Builtin.append_ #[t,u] ty #[.slice (some ⟨g,p,none⟩) n c,x]).run P w = .ok (.slice (some ⟨w.heap.size,0,none⟩) (n + m) (grownCap w (n + m) c e)) (w.drew.alloc (.cells (xs.toArray ++ news.toArray ++ Builtin.zeroCells z.cells (grownCap w (n + m) c e - (n + m))) e)) := by
     rcases hd2 with ⟨e2,rfl⟩ | rfl
     · simp [Builtin.append_,run_underlying ht,run_underlying hu,sizeOf,typeInfo,zeroValue,hi,hz,hL,hn,h63',h48',Question.forced,hF',hfo',newRow,grownCap]
       try (congr 2; apply Array.ext'; simp [List.append_assoc])
     · simp [Builtin.append_,run_underlying ht,run_underlying hu,sizeOf,typeInfo,zeroValue,hi,hz,hL,hn,h63',h48',Question.forced,hF',hfo',newRow,grownCap]
       try (congr 2; apply Array.ext'; simp [List.append_assoc])
   refine ⟨_,_,hr,⟨hlen,.inr ⟨w.heap.size,_,_,rfl,Nat.zero_le _,heap_alloc_new w.drew _,hge,hcm,?_,?_⟩⟩,⟨rfl,rfl,rfl,by simp,fun k hk _ => heap_alloc_old w.drew _ hk⟩,rfl,?_⟩
   · simp only [Array.size_append,List.size_toArray,size_zeroCells,hzs,hxl,hl,← Nat.add_mul]
     congr 1
     omega
   · simp only [Array.toList_append,List.append_assoc]
     rw [← List.append_assoc,← hlen]
     exact List.take_left
   · intro g' cur' fz hg' hh u hu
     simp only [Value.ownBlock,Option.some.injEq] at hg'
     subst hg'
     have hh' := heap_alloc_new w.drew (.cells (xs.toArray ++ news.toArray ++ Builtin.zeroCells z.cells (grownCap w (n + m) c e - (n + m))) e)
     have hsz':w.drew.heap.size = w.heap.size := rfl
     rw [hsz'] at hh'
     rw [hh'] at hh
     simp only [Option.some.injEq,Obj.cells.injEq] at hh
     obtain ⟨rfl,_,_⟩ := hh
     simp only [Array.toList_append,List.mem_append] at hu
     rcases hu with (hu | hu) | hu
     · exact hx1 u hu
     · exact h1 u hu
     · exact hzc _ u hu
end
end Go.Vc
end
section
namespace Go.Vc
open Go.RowKit (Below)
section
variable {P:Program} {w0:World} {cx:Cx} {ρ:Ren} {s:S} {K:AV → S → Prop} {a:Act} {o:Oper} {w:World} {H:List Blk}

theorem Core.pushG (hC:Core w0 cx ρ H w) {k:Blk} {e':Option Nat × Nat} {w':World} (h1:w'.os = w.os) (h2:w'.tape = w.tape) (h3:w'.output = w.output) (h4:w.heap.size ≤ w'.heap.size) (h5:∀ i,i < w.heap.size → w'.heap[i]? = w.heap[i]?)
   (hk:k.ok (ρ ++ [e']) e' w') (he':∀ g,e'.1 = some g → w.heap.size ≤ g ∧ g < w'.heap.size) (hone:k.one = true := by rfl):Core w0 cx (ρ ++ [e']) (H ++ [k]) w' := by
 have hlen := hC.rh.len
 have h1k:k.live = true → ∀ g,owns e' g → e'.1 = some g := fun hl g hg => hk.own1 hl hone hg
 have hlast:∀ (b:Nat) (q:Blk),(H ++ [k])[b]? = some q → (b < H.length ∧ H[b]? = some q) ∨ (b = H.length ∧ q = k) := by
   intro b q hq
   rcases Nat.lt_or_ge b H.length with hb | hb
   · rw [List.getElem?_append_left hb] at hq; exact .inl ⟨hb,hq⟩
   · have hb2:b < (H ++ [k]).length := (List.getElem?_eq_some_iff.1 hq).1
     have:b = H.length := by simp at hb2; omega
     subst this
     simp at hq
     exact .inr ⟨rfl,hq.symm⟩
 have hatl:∀ b,b < H.length → Ren.own (ρ ++ [e']) b = ρ.own b := fun b hb => own_append (by omega)
 have hatn:Ren.own (ρ ++ [e']) H.length = owns e' := by
   rw [← hlen]
   exact own_last
 refine Core.next hC (by simp [hlen]) ⟨h1,h2,h3,h4,fun i hi _ => h5 i hi⟩ (fun b q e hq he => ?_) (fun b1 b2 q1 q2 g x1 x2 l1 l2 a1 a2 => ?_) (fun g hg => ?_)
 · rcases hlast b q hq with ⟨hb,hq'⟩ | ⟨rfl,rfl⟩
   · rw [List.getElem?_append_left (by omega)] at he
     have hok := hC.rh.ok b q e hq' he
     exact (hok.keep fun g hg hl => h5 g (hok.block hl hg)).more _
   · rw [← hlen] at he
     simp at he
     subst he
     exact hk
 · rcases hlast b1 q1 x1 with ⟨hb1,hq1⟩ | ⟨rfl,rfl⟩ <;> rcases hlast b2 q2 x2 with ⟨hb2,hq2⟩ | ⟨rfl,rfl⟩
   · rw [hatl b1 hb1] at a1
     rw [hatl b2 hb2] at a2
     exact hC.rh.inj b1 b2 q1 q2 g hq1 hq2 l1 l2 a1 a2
   · rw [hatl b1 hb1] at a1
     rw [hatn] at a2
     have := (hC.rh.lo _ (image_get hq1 l1 a1)).2
     have := (he' g (h1k l2 g a2)).1
     omega
   · rw [hatl b2 hb2] at a2
     rw [hatn] at a1
     have := (hC.rh.lo _ (image_get hq2 l2 a2)).2
     have := (he' g (h1k l1 g a1)).1
     omega
   · rfl
 · rcases image_app hlen hg with h | h
   · exact ⟨.inl h,by have := (hC.rh.lo g h).2; omega⟩
   · exact ⟨.inr (he' g (h1k h.2 g h.1)).1,(he' g (h1k h.2 g h.1)).2⟩
theorem vec_of_owned {α:Type} {e:Enc α} {bs:List Nat} {wd:Nat} {T:TypeId} {xs:List α} {v:Value} {n:Nat} {vs:List Value} {w':World} (hw:0 < wd) (hlen:∀ x,(e.f bs x).length = wd)
   (hown:w'.ownsRow 0 T wd v n vs) (hn:xs.length = n) (hone:∀ g arr fz,v.ownBlock = some g → w'.heap[g]? = some (.cells arr T fz) → ∀ u ∈ arr.toList,u.oneCell' = true) :
   ∃ cap,(∀ ρ:Ren,All2 (CV.R ρ) (flat e bs xs) vs → (Blk.vec true T e bs wd xs).ok ρ (v.ownBlock,cap) w') ∧ (∀ (id:Nat) (ρ':Ren),ρ'[id]? = some (v.ownBlock,cap) → (CV.vec id n).R ρ' v) ∧ (∀ g,v.ownBlock = some g → g < w'.heap.size) := by
 rcases hown.2 with ⟨rfl,rfl⟩ | ⟨g,cap,cur,rfl,_,hg,hnc,hcm,hcs,htake⟩
 · have hx:xs = [] := List.eq_nil_of_length_eq_zero hn
   subst hx
   exact ⟨0,fun ρ _ => ⟨hw,hlen,.inl ⟨rfl,rfl,rfl⟩⟩,fun id ρ' h => ⟨_,h,.inr ⟨rfl,rfl,rfl⟩⟩,fun g hg => by simp [Value.ownBlock] at hg⟩
 · refine ⟨cap,fun ρ hA => ⟨hw,hlen,.inr ⟨g,cur,(0,0),rfl,hg,hcs,(by omega),(by simpa [maxLen] using hcm),⟨List.replicate (cur.toList.drop (n * wd)).length .any,?_,fun x hx => List.eq_of_mem_replicate hx⟩,fun _ => rfl⟩⟩,fun id ρ' h => ⟨_,h,.inl ⟨g,rfl,rfl,hnc⟩⟩,fun g' hg' => ?_⟩
   · have hsp:cur.toList = vs ++ cur.toList.drop (n * wd) := by rw [← htake]; exact (List.take_append_drop _ _).symm
     have ho := hone g cur (0,0) rfl hg
     rw [hsp] at ho ⊢
     have hdl:(vs ++ cur.toList.drop (n * wd)).drop (n * wd) = cur.toList.drop (n * wd) := by
       rw [List.drop_append_of_le_length (by rw [hown.1]; exact Nat.le_refl _),List.drop_eq_nil_of_le (by rw [hown.1]; exact Nat.le_refl _),List.nil_append]
     rw [hdl]
     refine hA.append ?_
     have ho2:∀ u ∈ cur.toList.drop (n * wd),u.oneCell' = true := fun u hu => ho u (List.mem_append_right _ hu)
     generalize cur.toList.drop (n * wd) = l at ho2
     induction l with
     | nil => exact .nil
     | cons x r ih => exact .cons (ho2 x (by simp)) (ih fun u hu => ho2 u (by simp [hu]))
   · simp only [Value.ownBlock,Option.some.injEq] at hg'
     subst hg'
     exact (Array.getElem?_eq_some_iff.1 hg).1
theorem bytesT_spec {t:TypeId} {n b:Nat} {z:List Value} (hs:sizeT P t = some n) (hb:bytesT P t = some b) (hz:zeroT P t = some z):∃ i v,P.info? t = some i ∧ i.size = n ∧ i.bytes = b ∧ i.zero = some v ∧ v.cells.toList = z ∧ ∀ u ∈ z,u.oneCell' = true := by
 obtain ⟨i,hi,hn⟩ := sizeT_spec hs
 have hb':i.bytes = b := by simpa [bytesT,hi] using hb
 unfold zeroT at hz
 split at hz
 · rename_i v hv
   split at hz
   · rename_i h1
     simp only [Option.some.injEq] at hz
     simp only [hi,Option.bind_some] at hv
     exact ⟨i,v,hi,hn,hb',hv,hz,fun u hu => List.all_eq_true.1 h1 u (by rw [hz]; exact hu)⟩
   · cases hz
 · cases hz
theorem e_app (hE:EnvR ρ s.env a.tmps) (hC:Core w0 cx ρ s.H w) {t u e:TypeId} {du:TypeDesc} {x y:Operand} {x' y':X} {wd bt:Nat} {z:List Value} {args:Array Operand} {ts:Array TypeId}
   (hop:o.op = .call { callee := .builtin .append,args := args,argTypes := ts }) (hargs:args.toList = [x,y]) (hts:ts.toList = [t,u]) (ht:P.underlying t = some (.slice e)) (hu:P.underlying u = some du) (hdu:srcT du = true)
   (hs:sizeT P e = some wd) (hb:bytesT P e = some bt) (hz:zeroT P e = some z) (hzl:z.length = wd) (hx:compX x = some x') (hy:compX y = some y') (h:evI P w0 (.app e wd bt x' y') s K):EOk P w0 cx o a ρ s K w := by
 simp only [evI,appI] at h
 obtain ⟨c,hA1,hR⟩ := getC_R hE hx h
 clear h
 obtain ⟨d,h,hRd⟩ := getC_R hE hy hA1
 clear hA1
 obtain ⟨i,zv,hi,rfl,rfl,hiz,hzv,hz1⟩ := bytesT_spec hs hb hz
 have hzs:zv.cells.size = i.size := by rw [← hzl,← hzv]; simp
 have hz1':∀ u ∈ zv.cells.toList,u.oneCell' = true := by rw [hzv]; exact hz1
 have hav:args.map a.eval = #[a.eval x,a.eval y] := by apply Array.toList_inj.1; simp [hargs]
 have htv:ts = #[t,u] := Array.toList_inj.1 (by simp [hts])
 have hrunop:∀ v' w',(Builtin.append_ #[t,u] o.type #[a.eval x,a.eval y]).run P w = .ok v' w' → (execOp a.eval o).run P w = .ok (.value v') w' := by
   intro v' w' hr
   rw [run_call_builtin hop,hav,htv]
   simp [builtin,hr]
 split at h
 case h_1 b n =>
   split at h
   case h_2 => exact h.elim
   case h_1 α wr T' en bs wd' xs hbk =>
     obtain ⟨hck,hn,ys,hsrc,hby,h63,hset⟩ := chk_spec h
     clear h
     simp only [Bool.and_eq_true] at hck
     obtain ⟨hwr,hT,hw⟩ := hck
     have hT2:T' = e := by simpa using hT
     have hw2:wd' = i.size := by simpa using hw
     subst hwr hT2 hw2
     obtain ⟨_,hpush⟩ := setF_spec hset
     have hK := pushF_spec hpush
     clear hset hpush
     obtain ⟨e1,hρ,h0,hlen,h2⟩ := hC.rh.get hbk
     obtain ⟨news,hAn,hL,hF⟩ := src_sound (P := P) hC.rh hlen hRd hsrc
     have hnl:news.length = ys.length * i.size := by rw [← hAn.length,flat_length hlen]
     obtain ⟨e1',he1,hRv⟩ := hR
     rw [hρ] at he1
     cases he1
     -- the row that is appended to
     have howned:∃ vs,w.ownsRow 0 T' i.size (a.eval x) n vs ∧ All2 (CV.R ρ) (flat en bs xs) vs ∧ (a.eval x).ownBlock = e1.1 ∧ (∀ g cur,(a.eval x).ownBlock = some g → w.heap[g]? = some (.cells cur T' (0,0)) → ∀ u ∈ cur.toList,u.oneCell' = true) := by
       rcases h2 with ⟨h2,hx0,_⟩ | ⟨g',arr,fz,h2,h3,h4,h5,hc,⟨sp,h6,h7⟩,h8⟩
       · subst hx0
         have hn0:n = 0 := by simpa using hn
         subst hn0
         rcases hRv with ⟨g,hg,_,_⟩ | ⟨_,_,hv⟩
         · rw [h2] at hg; cases hg
         · rw [hv]
           exact ⟨[],World.ownsRow_nil w 0 T' i.size,.nil,by simp [Value.ownBlock,h2],fun g cur hg => by simp [Value.ownBlock] at hg⟩
       · rcases hRv with ⟨g,hg,hv,_⟩ | ⟨hg,_⟩
         · rw [h2] at hg
           cases hg
           have hfz := h8 rfl
           subst hfz
           obtain ⟨m1,m2,hm,hA1,hA2⟩ := h6.split_
           have hm1:m1.length = n * i.size := by rw [← hA1.length,flat_length hlen,hn]
           rw [hv]
           refine ⟨m1,⟨hm1,.inr ⟨g',e1.2,arr,rfl,Nat.zero_le _,h3,by omega,by simp only [maxLen]; omega,h4,?_⟩⟩,hA1,by simp [Value.ownBlock,h2],fun g cur hg hh => ?_⟩
           · rw [hm,← hm1]; exact List.take_left
           · simp only [Value.ownBlock,Option.some.injEq] at hg
             subst hg
             rw [h3] at hh
             simp only [Option.some.injEq,Obj.cells.injEq] at hh
             obtain ⟨rfl,_,_⟩ := hh
             exact h6.one'
         · rw [h2] at hg; cases hg
     obtain ⟨vs,hown,hAx,hob,hone⟩ := howned
     have hnm:(xs ++ ys).length = n + ys.length := by rw [List.length_append,hn]
     rw [hnm] at hby h63
     obtain ⟨v',w',hr,hown',hgr,hob',hone'⟩ := run_append_gen (P := P) (ty := o.type) ht hu hdu hi hiz hzs hown hL hF hnl hAn.one' (by simp only [maxLen]; omega) hby hz1' hAx.one' hone
     have hAall:All2 (CV.R ρ) (flat en bs (xs ++ ys)) (vs ++ news) := by
       have:flat en bs (xs ++ ys) = flat en bs xs ++ flat en bs ys := by simp [flat]
       rw [this]
       exact hAx.append hAn
     obtain ⟨cap,hok,hRn,hlt⟩ := vec_of_owned (e := en) (bs := bs) (xs := xs ++ ys) h0 hlen hown' hnm hone'
     have hCn:Core w0 cx (ρ ++ [(v'.ownBlock,cap)]) (s.H.set b .dead ++ [.vec true T' en bs i.size (xs ++ ys)]) w' := by
       refine hC.move hbk rfl hρ hgr.os hgr.tape hgr.output hgr.size (fun j hj hne => hgr.block j hj (by rw [hob]; exact hne)) (hok _ (hAall.mono fun _ _ => CV.R.more _)) fun g hg => ⟨?_,hlt g hg⟩
       rcases hob' with h | h
       · exact .inl (by rw [← hob,← h]; exact hg)
       · rw [h] at hg
         cases hg
         exact .inr (Nat.le_refl _)
     refine eok_of_run ⟨_,_,_,_,_,hK,rfl,?_,hCn,hrunop _ _ hr⟩
     have := hRn (0 + (s.H.set b .dead).length) (ρ ++ [(v'.ownBlock,cap)]) (by rw [Nat.zero_add,List.length_set,← hC.rh.len]; simp)
     rw [← hnm] at this
     exact this
 case h_2 b wd1 o' n p =>
   split at h
   case h_2 => exact h.elim
   case h_1 α wr T' en bs wd' xs hbk =>
     obtain ⟨hck,hn,ys,hsrc,hby,h63,hset⟩ := chk_spec h
     clear h
     simp only [Bool.and_eq_true] at hck
     obtain ⟨hwr,hT,hw,hw1⟩ := hck
     have hT2:T' = e := by simpa using hT
     have hw2:wd' = i.size := by simpa using hw
     have hw3:wd1 = i.size := by simpa using hw1
     subst hwr hT2 hw2 hw3
     obtain ⟨_,hall⟩ := setF_spec hset
     clear hset
     obtain ⟨e1,hρ,h0,hlen,h2⟩ := hC.rh.get hbk
     obtain ⟨news,hAn,hL,hF⟩ := src_sound (P := P) hC.rh hlen hRd hsrc
     have hnl:news.length = ys.length * i.size := by rw [← hAn.length,flat_length hlen]
     obtain ⟨e1',he1,hRv⟩ := hR
     rw [hρ] at he1
     cases he1
     have hxy:(xs ++ ys).length = xs.length + ys.length := List.length_append
     have hdl:(xs.drop o').length = n := by rw [List.length_drop]; omega
     have hnm:(xs.drop o' ++ ys).length = n + ys.length := by rw [List.length_append,hdl]
     rw [hxy] at hby h63
     have hby2:(n + ys.length) * i.bytes ≤ 140737488355328 := Nat.le_trans (Nat.mul_le_mul_right _ (by omega)) hby
     have hend:∀ (v':Value) (w':World) (zs:List α) (vs:List Value),(execOp a.eval o).run P w = .ok (.value v') w' → zs = xs.drop o' ++ ys → All2 (CV.R ρ) (flat en bs zs) vs → w'.ownsRow 0 T' i.size v' (n + ys.length) vs → w.grownBy w' e1.1 →
         (v'.ownBlock = e1.1 ∨ v'.ownBlock = some w.heap.size) → (∀ g cur fz,v'.ownBlock = some g → w'.heap[g]? = some (.cells cur T' fz) → ∀ u ∈ cur.toList,u.oneCell' = true) → EOk P w0 cx o a ρ s K w := by
       intro v' w' zs vs hr hzs hAall hown' hgr hob' hone'
       subst hzs
       have hK := pushF_spec (hall 0 0 (xs.drop o' ++ ys) (Nat.zero_le _) rfl (by omega))
       obtain ⟨cap,hok,hRn,hlt⟩ := vec_of_owned (e := en) (bs := bs) (xs := xs.drop o' ++ ys) h0 hlen hown' hnm hone'
       have hCn:Core w0 cx (ρ ++ [(v'.ownBlock,cap)]) (s.H.set b .dead ++ [.vec true T' en bs i.size (xs.drop o' ++ ys)]) w' := by
         refine hC.move hbk rfl hρ hgr.os hgr.tape hgr.output hgr.size (fun j hj hne => hgr.block j hj hne) (hok _ (hAall.mono fun _ _ => CV.R.more _)) fun g hg => ⟨?_,hlt g hg⟩
         rcases hob' with h | h
         · exact .inl (by rw [← h]; exact hg)
         · rw [h] at hg
           cases hg
           exact .inr (Nat.le_refl _)
       refine eok_of_run ⟨_,_,_,_,_,hK,rfl,?_,hCn,hr⟩
       obtain ⟨e2,he2,hv2⟩ := hRn (0 + (s.H.set b .dead).length) (ρ ++ [(v'.ownBlock,cap)]) (by rw [Nat.zero_add,List.length_set,← hC.rh.len]; simp)
       refine ⟨e2,he2,?_⟩
       rcases hv2 with ⟨g,hg,hv3,hle⟩ | ⟨hg,hn3,hv3⟩
       · exact .inl ⟨g,hg,by rw [hv3]; rfl,by omega,fun _ => by simp⟩
       · exact .inr ⟨hg,hn3,rfl,hv3⟩
     rcases hRv with ⟨g,hg,hv,hoe,hp⟩ | ⟨hg,hn0,ho0,hv⟩
     · rcases h2 with ⟨h2,_,_⟩ | ⟨g',arr,fz,h2,h3,h4,h5,hc,⟨sp,h6,h7⟩,h8⟩
       · rw [h2] at hg; cases hg
       · rw [h2] at hg
         cases hg
         have hfz := h8 rfl
         subst hfz
         obtain ⟨c,hc2⟩:∃ c,e1.2 = o' + c := ⟨e1.2 - o',by omega⟩
         have hcc:e1.2 - o' = c := by omega
         rw [hcc] at hv
         obtain ⟨m1,m2,hm,hA1,hA2⟩ := h6.split_
         have hm1:m1.length = xs.length * i.size := by rw [← hA1.length,flat_length hlen]
         have hmul:(o' + n) * i.size = o' * i.size + n * i.size := Nat.add_mul _ _ _
         have hdr:(arr.toList.drop (o' * i.size)).take (n * i.size) = m1.drop (o' * i.size) := by
           rw [hm,List.drop_append_of_le_length (by rw [hm1,← hn]; omega),List.take_append_of_le_length (by rw [List.length_drop,hm1,← hn]; omega),List.take_of_length_le (by rw [List.length_drop,hm1,← hn]; omega)]
         have hAx:All2 (CV.R ρ) (flat en bs (xs.drop o')) (m1.drop (o' * i.size)) := by
           have := hA1.drop_ (o' * i.size)
           rw [flat_drop hlen o' xs (by omega)] at this
           exact this
         have hrun := run_append_off (P := P) (ty := o.type) (w := w) ht hu hdu hi hiz hzs (o := o') (n := n) (m := ys.length) (c := c) (p := p) h3 (by rw [h4,hc2]) (by omega) (fun h => hp (by omega)) hdr h6.one' hL hF hnl hAn.one' (by simp only [maxLen]; omega) hby2 hz1'
         rw [← hv] at hrun
         rcases hrun with ⟨hroom,hr⟩ | ⟨v',w',hr,hown',hgr,hob',hone'⟩
         · have hK := pushF_spec (hall o' p (xs ++ ys) (Nat.le_refl _) (by rw [List.drop_append_of_le_length (by omega)]) (by omega))
           have hcur:arr.toList.take ((o' + n) * i.size) ++ news ++ arr.toList.drop ((o' + n) * i.size + news.length) = m1 ++ news ++ m2.drop news.length := by
             rw [hm,hn,← hm1,List.take_left,List.drop_append,List.drop_eq_nil_of_le (by omega),List.nil_append]
             congr 2
             omega
           rw [hcur] at hr
           have hAll:All2 (CV.R ρ) (flat en bs (xs ++ ys) ++ sp.drop news.length) (m1 ++ news ++ m2.drop news.length) := by
             have:flat en bs (xs ++ ys) = flat en bs xs ++ flat en bs ys := by simp [flat]
             rw [this]
             exact (hA1.append hAn).append (hA2.drop_ _)
           have hsz:(m1 ++ news ++ m2.drop news.length).length = e1.2 * i.size := by
             have e1':arr.size = m1.length + m2.length := by rw [← Array.length_toList,hm,List.length_append]
             have e2:(o' + (n + ys.length)) * i.size ≤ e1.2 * i.size := Nat.mul_le_mul_right _ (by omega)
             rw [Nat.add_mul,Nat.add_mul] at e2
             rw [List.length_append,List.length_append,List.length_drop]
             have e3:xs.length * i.size = o' * i.size + n * i.size := by rw [← hn,hmul]
             omega
           have hCn:Core w0 cx (ρ ++ [e1]) (s.H.set b .dead ++ [.vec true T' en bs i.size (xs ++ ys)]) (w.setRow g (m1 ++ news ++ m2.drop news.length).toArray) := by
             refine hC.move hbk rfl hρ rfl rfl rfl (by simp) (fun j hj hne => setRow_other w g j _ fun h => hne (by rw [h2,h])) ⟨h0,hlen,.inr ⟨g,_,(0,0),h2,setRow_heap w g arr _ T' _ h3,by rw [List.size_toArray,hsz],by omega,hc,⟨sp.drop news.length,(hAll.mono fun _ _ => CV.R.more _),fun x hx => h7 x (List.mem_of_mem_drop hx)⟩,fun _ => rfl⟩⟩ fun g2 hg => ⟨.inl hg,?_⟩
             rw [h2] at hg
             cases hg
             have := (Array.getElem?_eq_some_iff.1 h3).1
             simpa using this
           refine eok_of_run ⟨_,_,_,_,_,hK,rfl,⟨e1,?_,.inl ⟨g,h2,by rw [hcc],by omega,hp⟩⟩,hCn,hrunop _ _ hr⟩
           rw [Nat.zero_add,List.length_set,← hC.rh.len]
           simp
         · refine hend v' w' _ _ (hrunop _ _ hr) rfl ?_ hown' ⟨hgr.os,hgr.tape,hgr.output,hgr.size,fun j hj _ => hgr.block j hj (by simp)⟩ (.inr hob') hone'
           have:flat en bs (xs.drop o' ++ ys) = flat en bs (xs.drop o') ++ flat en bs ys := by simp [flat]
           rw [this]
           exact hAx.append hAn
     · subst hn0 ho0
       have hx0:xs = [] := List.eq_nil_of_length_eq_zero (by omega)
       subst hx0
       have hown:w.ownsRow 0 T' i.size (a.eval x) 0 [] := by rw [hv]; exact World.ownsRow_nil w 0 T' i.size
       have hob:(a.eval x).ownBlock = none := by rw [hv]; rfl
       obtain ⟨v',w',hr,hown',hgr,hob',hone'⟩ := run_append_gen (P := P) (ty := o.type) ht hu hdu hi hiz hzs hown hL hF hnl hAn.one' (by simp only [maxLen]; omega) hby2 hz1' (by simp) (fun g cur hg => by rw [hob] at hg; cases hg)
       refine hend v' w' _ _ (hrunop _ _ hr) rfl ?_ hown' (by rw [hg,← hob]; exact hgr) (by rw [hg,← hob]; exact hob') hone'
       simpa using hAn
 case h_3 =>
   obtain ⟨h0,α,en,bs,ys,hlen,hsrc,hby,h63,hpush⟩ := h
   have hK := pushF_spec hpush
   clear hpush
   obtain ⟨hv,_⟩ := hR
   obtain ⟨news,hAn,hL,hF⟩ := src_sound (P := P) hC.rh hlen hRd hsrc
   have hnl:news.length = ys.length * i.size := by rw [← hAn.length,flat_length hlen]
   have hown:w.ownsRow 0 e i.size (a.eval x) 0 [] := by rw [hv]; exact World.ownsRow_nil w 0 e i.size
   obtain ⟨v',w',hr,hown',hgr,hob',hone'⟩ := run_append_gen (P := P) (ty := o.type) ht hu hdu hi hiz hzs hown hL hF hnl hAn.one' (by simp only [maxLen]; omega) (by rw [Nat.zero_add]; exact hby) hz1' (by simp) (fun g cur hg => by rw [hv] at hg; simp [Value.ownBlock] at hg)
   rw [Nat.zero_add,List.nil_append] at hown'
   obtain ⟨cap,hok,hRn,hlt⟩ := vec_of_owned (e := en) (bs := bs) (xs := ys) h0 hlen hown' rfl hone'
   have hob:(a.eval x).ownBlock = none := by rw [hv]; rfl
   have hCn:Core w0 cx (ρ ++ [(v'.ownBlock,cap)]) (s.H ++ [.vec true e en bs i.size ys]) w' := by
     refine hC.pushG hgr.os hgr.tape hgr.output hgr.size (fun j hj => hgr.block j hj (by rw [hob]; exact nofun)) (hok _ (hAn.mono fun _ _ => CV.R.more _)) fun g hg => ⟨?_,hlt g hg⟩
     rcases hob' with h | h
     · rw [h,hob] at hg; cases hg
     · rw [h] at hg
       cases hg
       exact Nat.le_refl _
   exact eok_of_run ⟨_,_,_,_,_,hK,rfl,hRn (0 + s.H.length) (ρ ++ [(v'.ownBlock,cap)]) (by rw [Nat.zero_add,← hC.rh.len]; simp),hCn,hrunop _ _ hr⟩
 case h_4 => exact h.elim
theorem Ghost.core {H H1:List Blk} (hg:Ghost w0 H H1) (hC:Core w0 cx ρ H w):∃ t,Core w0 cx (ρ ++ t) H1 w := by
 obtain ⟨t,h1,h2⟩ := hg ρ w hC.rh
 obtain ⟨u,hu⟩ := hC.pre
 exact ⟨t,h1,hC.fr,fun g hg => hC.own g (h2 g hg),u ++ t,by rw [hu,List.append_assoc]⟩
theorem e_apx (hE:EnvR ρ s.env a.tmps) (hC:Core w0 cx ρ s.H w) {t u e:TypeId} {du:TypeDesc} {x y:Operand} {x' y':X} {wd bt:Nat} {z:List Value} {args:Array Operand} {ts:Array TypeId}
   (hop:o.op = .call { callee := .builtin .append,args := args,argTypes := ts }) (hargs:args.toList = [x,y]) (hts:ts.toList = [t,u]) (ht:P.underlying t = some (.slice e)) (hu:P.underlying u = some du) (hdu:srcT du = true)
   (hs:sizeT P e = some wd) (hb:bytesT P e = some bt) (hz:zeroT P e = some z) (hzl:z.length = wd) (hx:compX x = some x') (hy:compX y = some y') (h:evI P w0 (.apx e wd bt x' y') s K):EOk P w0 cx o a ρ s K w := by
 obtain ⟨H1,hg,h⟩ := h
 obtain ⟨tt,hC1⟩ := hg.core hC
 have hE1:EnvR (ρ ++ tt) (S.mk s.env H1).env a.tmps := hE.more tt
 have h2 := e_app (s := ⟨s.env,H1⟩) (K := K) hE1 hC1 hop hargs hts ht hu hdu hs hb hz hzl hx hy (by simp only [evI]; exact h)
 intro next Q hn
 refine h2 next Q fun x s' t' v w' hK he hR hCw => ?_
 rw [List.append_assoc] at hR hCw
 exact hn x s' (tt ++ t') v w' hK he hR hCw
theorem e_mks (hE:EnvR ρ s.env a.tmps) (hC:Core w0 cx ρ s.H w) {t e:TypeId} {x y:Operand} {x' y':X} {wd bt:Nat} {z:List Value} (hop:o.op = .makeSlice t x y) (ht:P.underlying t = some (.slice e))
   (hs:sizeT P e = some wd) (hb:bytesT P e = some bt) (hz:zeroT P e = some z) (hzl:z.length = wd) (hx:compX x = some x') (hy:compX y = some y') (h:evI P w0 (.mks e wd bt z x' y') s K):EOk P w0 cx o a ρ s K w := by
 simp only [evI] at h
 obtain ⟨k1,n,hA1,he1⟩ := getI_R hE hx h
 clear h
 obtain ⟨k2,c,⟨⟨hn0,hnc,hby,hc63,hw⟩,hm⟩,he2⟩ := getI_R hE hy hA1
 clear hA1
 obtain ⟨α,en,ebs,q,hlen,hq,hpush⟩ := mapF_spec hm
 have hK := pushF_spec hpush
 clear hpush hm
 obtain ⟨i,zv,hi,rfl,rfl,hiz,hzv,hz1⟩ := bytesT_spec hs hb hz
 have hzs:zv.cells.size = i.size := by rw [← hzl,← hzv]; simp
 have hr := run_make (P := P) w t e i zv ht hi hiz k1 k2 n c hn0 hnc (by rw [Int.mul_comm]; omega) (by omega)
 obtain ⟨n,rfl⟩ := Int.eq_ofNat_of_zero_le hn0
 obtain ⟨c,rfl⟩ := Int.eq_ofNat_of_zero_le (Int.le_trans hn0 hnc)
 simp only [Int.toNat_natCast] at hr hK
 have hnc':n ≤ c := by omega
 have hcells:(madeCells zv.cells (c * i.size)).toList = (List.replicate n z).flatten ++ (List.replicate (c - n) z).flatten := by
   have := range_zero (len := c) hzs (by omega)
   rw [hzv] at this
   rw [madeCells,this,← List.flatten_append,List.replicate_append_replicate]
   congr 2
   omega
 have hflat:flat en ebs (List.replicate n q) = (List.replicate n (z.map .val)).flatten := by
   rw [← hq]
   clear hr hK hcells hnc hnc' hn0 he1
   induction n with
   | zero => rfl
   | succ n ih => simp only [flat,List.replicate_succ,List.flatMap_cons,List.flatten_cons] at ih ⊢; rw [ih]
 have hzR:∀ (ρ:Ren) (n:Nat),All2 (CV.R ρ) (List.replicate n (z.map .val)).flatten (List.replicate n z).flatten := by
   intro ρ n
   induction n with
   | zero => exact .nil
   | succ n ih => simp only [List.replicate_succ,List.flatten_cons]; exact (zero_R hz1).append ih
 have hspare:∀ (ρ:Ren),All2 (CV.R ρ) (List.replicate ((List.replicate (c - n) z).flatten).length .any) (List.replicate (c - n) z).flatten := by
   intro ρ
   have ho:∀ u ∈ (List.replicate (c - n) z).flatten,u.oneCell' = true := fun u hu => by
     obtain ⟨l,hl,hul⟩ := List.mem_flatten.1 hu
     rw [List.eq_of_mem_replicate hl] at hul
     exact hz1 u hul
   generalize (List.replicate (c - n) z).flatten = l at ho
   induction l with
   | nil => exact .nil
   | cons x r ih => exact .cons (ho x (by simp)) (ih fun u hu => ho u (by simp [hu]))
 obtain ⟨f1,f2,f3,f4⟩ := alloc_facts (w := w) (.cells (madeCells zv.cells (c * i.size)) e)
 have hCn:Core w0 cx (ρ ++ [(some w.heap.size,c)]) (s.H ++ [.vec true e en ebs i.size (List.replicate n q)]) (w.alloc (.cells (madeCells zv.cells (c * i.size)) e)) := by
   refine hC.push f1 f2 f3 f4 ⟨hw,hlen,.inr ⟨w.heap.size,madeCells zv.cells (c * i.size),(0,0),rfl,by rw [f4]; simp,size_madeCells _ _,by simpa using hnc',by omega,⟨List.replicate ((List.replicate (c - n) z).flatten).length .any,?_,fun x hx => List.eq_of_mem_replicate hx⟩,fun _ => rfl⟩⟩
   · rw [hcells,hflat]
     exact (hzR _ n).append (hspare _)
 refine eok_of_run ⟨_,_,_,.slice (some ⟨w.heap.size,0,none⟩) n c,_,hK,rfl,⟨(some w.heap.size,c),by rw [Nat.zero_add,← hC.rh.len]; simp,.inl ⟨_,rfl,rfl,hnc'⟩⟩,hCn,?_⟩
 simp [execOp,hop,he1,he2,hr]
theorem e_call (hE:EnvR ρ s.env a.tmps) (hC:Core w0 cx ρ s.H w) {f:FuncId} {args:Array Operand} {ts:Array TypeId} {xs:List X} (hop:o.op = .call { callee := .value (.func f),args := args,argTypes := ts })
   (hx:compXs args.toList = some xs) (h:evI P w0 (.call f xs) s K):EOk P w0 cx o a ρ s K w := by
 simp only [evI] at h
 obtain ⟨l,hcall,hA⟩ := get1s_R hE hx h
 clear h
 intro next Q hn
 have hcal := hcall.cal
 have hout := hcall.out ρ w _ hC.rh hA
 have hrun:(execOp a.eval o).run P w = .ok (.enter f (args.toList.map a.eval).toArray) w := by
   cases hf:P.funcs[f]? with
   | none => rw [hf] at hcal; cases hcal
   | some fn =>
     have eargs:(args.toList.map a.eval).toArray = args.map a.eval := by apply Array.toList_inj.1; simp
     rw [hf] at hcal
     simp only [Bool.and_eq_true,Bool.not_eq_true'] at hcal
     obtain ⟨hb,hnm⟩ := hcal
     have hnb:fn.body.isNone = false := by cases hbd:fn.body with | none => rw [hbd] at hb; cases hb | some _ => rfl
     simp only [execOp,hop,resolve,Act.eval,Deferred.ofValue,Sem.run_bind,Sem.run_pure,Result.andThen_ok,invoke,callFunc,run_program,hf,hnm,hnb,eargs]
     simp
 unfold Oper.wp
 rw [hrun,Oper.upon_enter]
 refine hout.mono fun e w' he => ?_
 obtain ⟨r,H',ρ',v,hK,rfl,hR,hRH,⟨t,rfl⟩,hfr,himg⟩ := he
 refine hn r { s with H := H' } t v w' hK rfl hR ?_
 refine Core.next hC hRH.len hfr hRH.ok hRH.inj fun g hg => ⟨himg g hg,(hRH.lo g hg).2⟩
theorem enter_run {f:FuncId} (hcal:(match P.funcs[f]? with | some fn => fn.body.isSome && !(fn.name == "runtime.NumGoroutine") | none => false) = true) (args:Array Value):(callFunc f args).run P w = .ok (.enter f args) w := by
 cases hf:P.funcs[f]? with
 | none => rw [hf] at hcal; cases hcal
 | some fn =>
   rw [hf] at hcal
   simp only [Bool.and_eq_true,Bool.not_eq_true'] at hcal
   obtain ⟨hb,hnm⟩ := hcal
   have hnb:fn.body.isNone = false := by cases hbd:fn.body with | none => rw [hbd] at hb; cases hb | some _ => rfl
   simp only [callFunc,Sem.run_bind,run_program,Result.andThen_ok,hf,hnm,hnb]
   simp
theorem eok_enter (hC:Core w0 cx ρ s.H w) {f:FuncId} {l:List A1} {vs:List Value} (hcall:CallsA P w0 f l s.H fun r H => K r { s with H := H }) (hA:All2 (A1.R ρ) l vs)
   (hrun:(execOp a.eval o).run P w = .ok (.enter f vs.toArray) w):EOk P w0 cx o a ρ s K w := by
 intro next Q hn
 have hout := hcall.out ρ w _ hC.rh hA
 unfold Oper.wp
 rw [hrun,Oper.upon_enter]
 refine hout.mono fun e w' he => ?_
 obtain ⟨r,H',ρ',v,hK,rfl,hR,hRH,⟨t,rfl⟩,hfr,himg⟩ := he
 refine hn r { s with H := H' } t v w' hK rfl hR ?_
 refine Core.next hC hRH.len hfr hRH.ok hRH.inj fun g hg => ⟨himg g hg,(hRH.lo g hg).2⟩
theorem caps_R {ps:List (Nat × Nat)} {vs:List Value} (h:All2 (fun (c:Nat × Nat) v => ∃ h,ρ.at c.1 = some h ∧ v = Value.pointer (some ⟨h,c.2,none⟩)) ps vs):All2 (A1.R ρ) (ps.map fun p => A1.c (.ptr p.1 p.2)) vs := by
 induction h with
 | nil => exact .nil
 | cons h _ ih => exact .cons h ih
theorem e_clc (hE:EnvR ρ s.env a.tmps) (hC:Core w0 cx ρ s.H w) {t:Nat} {args:Array Operand} {ts:Array TypeId} {xs:List X} (hop:o.op = .call { callee := .value (.tmp t),args := args,argTypes := ts })
   (hx:compXs args.toList = some xs) (h:evI P w0 (.clc (.t t) xs) s K):EOk P w0 cx o a ρ s K w := by
 simp only [evI] at h
 obtain ⟨z,h,hR⟩ := getC_R hE (show compX (.tmp t) = some (.t t) from rfl) h
 split at h
 case h_1 g ps =>
   obtain ⟨vs,hv,hps⟩ := hR
   obtain ⟨l,hcall,hA⟩ := get1s_R hE hx h
   refine eok_enter hC hcall (hA.append (caps_R hps)) ?_
   have hrun := enter_run (w := w) hcall.cal (args.map a.eval ++ vs)
   have e:(args.toList.map a.eval ++ vs.toList).toArray = args.map a.eval ++ vs := by apply Array.toList_inj.1; simp
   rw [e]
   simp only [execOp,hop,resolve,hv,Deferred.ofValue,Sem.run_bind,Sem.run_pure,Result.andThen_ok,invoke,Array.empty_append,hrun]
 case h_2 => exact h.elim
theorem app1_get (v:Value) (l:Array Value):(#[v] ++ l)[0]? = some v := by
 rw [← Array.getElem?_toList]
 simp
theorem app1_cut (v:Value) (l:Array Value):(#[v] ++ l).extract 1 (#[v] ++ l).size = l := by
 apply Array.toList_inj.1
 simp
theorem e_inv (hE:EnvR ρ s.env a.tmps) (hC:Core w0 cx ρ s.H w) {recv:Operand} {name:String} {args:Array Operand} {ts:Array TypeId} {x:X} {xs:List X} (hop:o.op = .call { callee := .invoke recv name,args := args,argTypes := ts })
   (hr:compX recv = some x) (hx:compXs args.toList = some xs) (h:evI P w0 (.inv x name xs) s K):EOk P w0 cx o a ρ s K w := by
 simp only [evI] at h
 obtain ⟨z,h,hR⟩ := getC_R hE hr h
 split at h
 case h_1 t b o' =>
   obtain ⟨g,hg,hv⟩ := hR
   obtain ⟨f,hm,h⟩ := h
   obtain ⟨l,hcall,hA⟩ := get1s_R hE hx h
   refine eok_enter hC hcall (.cons ⟨g,hg,rfl⟩ hA) ?_
   have hrun := enter_run (w := w) hcall.cal (#[Value.pointer (some ⟨g,o',none⟩)] ++ args.map a.eval)
   have e:(Value.pointer (some ⟨g,o',none⟩) :: args.toList.map a.eval).toArray = #[Value.pointer (some ⟨g,o',none⟩)] ++ args.map a.eval := by apply Array.toList_inj.1; simp
   have e2 := app1_get (Value.iface t (.pointer (some ⟨g,o',none⟩))) (args.map a.eval)
   have e3 := app1_cut (Value.iface t (.pointer (some ⟨g,o',none⟩))) (args.map a.eval)
   rw [e]
   simp only [execOp,hop,resolve,hv,Sem.run_bind,Sem.run_pure,Result.andThen_ok,invoke,e2,callMethod,run_program,hm ⟨g,o',none⟩ w,e3,hrun]
 case h_2 => exact h.elim
theorem e_ieq (hE:EnvR ρ s.env a.tmps) (hC:Core w0 cx ρ s.H w) {op:BinOp} {t u:TypeId} {x y:Operand} {x':X} {k:Nat} {neg:Bool} (hop:o.op = .binOp op t x y u) (hn:(op = .eql ∧ neg = false) ∨ (op = .neq ∧ neg = true))
   (hx:compX x = some x') (hy:compX y = some (.t k)) (h:evI P w0 (.ieq t neg x' (.t k)) s K):EOk P w0 cx o a ρ s K w := by
 simp only [evI] at h
 obtain ⟨z,h,hR⟩ := getC_R hE hx h
 obtain ⟨z2,h,hR2⟩ := getC_R hE hy h
 have key:∀ (r:Bool),ieqOf P w0 t (a.eval x) (a.eval y) r → (a.eval x = .nilIface → a.eval y ≠ .nilIface) → ((∃ t' v',a.eval x = .iface t' v') ∨ a.eval x = .nilIface) → ((∃ t' v',a.eval y = .iface t' v') ∨ a.eval y = .nilIface) → K (.o (.c (.val (.bool (bif neg then !r else r))))) s → EOk P w0 cx o a ρ s K w := by
   intro r hr h1 h2 h3 hK
   have hb := hr w hC.rh.base
   have hbin:(binOp .eql t (a.eval x) (a.eval y)).run P w = .ok (.bool r) w ∧ (binOp .neq t (a.eval x) (a.eval y)).run P w = .ok (.bool (!r)) w := by
     rcases h2 with ⟨_,_,h2⟩ | h2 <;> rcases h3 with ⟨_,_,h3⟩ | h3 <;> rw [h2,h3] at hb ⊢ <;> simp [binOp,hb]
   have hg:(eqGuard op t x y (a.eval x) (a.eval y)).run P w = .ok () w := by
     rcases h2 with ⟨_,_,h2⟩ | h2
     · rcases h3 with ⟨_,_,h3⟩ | h3 <;> rw [h2,h3] <;> rcases hn with ⟨rfl,_⟩ | ⟨rfl,_⟩ <;> simp [eqGuard]
     · rcases h3 with ⟨_,_,h3⟩ | h3
       · rw [h2,h3]
         rcases hn with ⟨rfl,_⟩ | ⟨rfl,_⟩ <;> simp [eqGuard]
       · exact absurd h3 (h1 h2)
   refine eok_of_run ⟨_,s,[],.bool (bif neg then !r else r),w,hK,rfl,⟨rfl,rfl⟩,by rw [List.append_nil]; exact hC,?_⟩
   rcases hn with ⟨rfl,rfl⟩ | ⟨rfl,rfl⟩
   · simp only [execOp,hop,Sem.run_bind,hg,Result.andThen_ok,hbin.1,cond_false]
     rfl
   · simp only [execOp,hop,Sem.run_bind,hg,Result.andThen_ok,hbin.2,cond_true]
     rfl
 split at h
 case h_1 t1 v1 t2 v2 =>
   obtain ⟨r,hr,hK⟩ := h
   obtain ⟨e1,_⟩ := hR
   obtain ⟨e2,_⟩ := hR2
   exact key r (by rw [e1,e2]; exact hr) (fun q => by rw [e1] at q; cases q) (.inl ⟨_,_,e1⟩) (.inl ⟨_,_,e2⟩) hK
 case h_2 t2 v2 =>
   obtain ⟨hr,hK⟩ := h
   obtain ⟨e1,_⟩ := hR
   obtain ⟨e2,_⟩ := hR2
   exact key false (by rw [e1,e2]; exact hr) (fun _ q => by rw [e2] at q; cases q) (.inr e1) (.inl ⟨_,_,e2⟩) (by cases neg <;> exact hK)
 case h_3 => exact h.elim
end
end Go.Vc
end
section
namespace Go.Vc
open Go.RowKit (Below)
section
variable {P:Program} {w0:World} {cx:Cx} {ρ:Ren} {s:S} {K:AV → S → Prop} {a:Act} {o:Oper} {w:World}

theorem opt_R (hE:EnvR ρ s.env a.tmps) {q:Option Operand} {q':Option X} {d:Nat} {k:IntKind → Int → Prop} (hq:optX q = some q') (hg:getI s.env (q'.getD (.k (.int .i64 d))) k) :
   ∃ kd n,k kd n ∧ ((q = none ∧ n = d) ∨ ∃ y,q = some y ∧ a.eval y = .int kd n) := by
 cases q with
 | none =>
   simp only [optX,Option.some.injEq] at hq
   subst hq
   simp only [Option.getD_none,getI,X.get] at hg
   exact ⟨_,_,hg,.inl ⟨rfl,rfl⟩⟩
 | some y =>
   simp only [optX] at hq
   cases hy:compX y with
   | none => simp [hy] at hq
   | some z =>
     simp only [hy,Option.map_some,Option.some.injEq] at hq
     subst hq
     simp only [Option.getD_some] at hg
     obtain ⟨kd,n,hk,hn⟩ := getI_R hE hy hg
     exact ⟨kd,n,hk,.inr ⟨y,rfl,hn⟩⟩
theorem run_slc {t e:TypeId} {wd:Nat} (hu:P.underlying t = some (.slice e)) (hs:sizeT P e = some wd) {x:Operand} {lo hi:Option Operand} (hop:o.op = .slice t x lo hi none) {A:Option Addr} {n c:Nat} (he:a.eval x = .slice A n c) {l h:Int}
   {k1 k2:IntKind} (hl:(lo = none ∧ l = 0) ∨ ∃ y,lo = some y ∧ a.eval y = .int k1 l) (hh:(hi = none ∧ h = n) ∨ ∃ y,hi = some y ∧ a.eval y = .int k2 h) (h0:0 ≤ l) (h1:l ≤ h) (h2:h ≤ c) (w:World) :
   (execOp a.eval o).run P w = .ok (.value (.slice (if c = l.toNat then A else A.map (·.add (l.toNat * wd))) (h.toNat - l.toNat) (c - l.toNat))) w := by
 have hh0:0 ≤ h := by omega
 have e1:l ≤ max h 0 := by omega
 rcases hl with ⟨rfl,rfl⟩ | ⟨y,rfl,hl⟩ <;> rcases hh with ⟨rfl,rfl⟩ | ⟨z,rfl,hh⟩
 · simp [execOp,hop,he,Instr.sliceAt,Instr.slice,run_underlying hu,Instr.sliceBounds,run_sizeT hs]
 · simp [execOp,hop,he,hh,Instr.sliceAt,Instr.slice,run_underlying hu,Instr.sliceBounds,Instr.sliceBound,asIntOf,hh0,h2,run_sizeT hs]
 · have e2:l ≤ (n:Int) := h1
   simp [execOp,hop,he,hl,Instr.sliceAt,Instr.slice,run_underlying hu,Instr.sliceBounds,Instr.sliceBound,asIntOf,h0,e2,run_sizeT hs]
 · simp [execOp,hop,he,hl,hh,Instr.sliceAt,Instr.slice,run_underlying hu,Instr.sliceBounds,Instr.sliceBound,asIntOf,h0,hh0,h2,e1,run_sizeT hs]
theorem e_slc (hE:EnvR ρ s.env a.tmps) (hC:Core w0 cx ρ s.H w) {t e:TypeId} {wd:Nat} {x:Operand} {lo hi:Option Operand} {x':X} {lo' hi':Option X} (hop:o.op = .slice t x lo hi none) (hu:P.underlying t = some (.slice e)) (hs:sizeT P e = some wd)
   (hx:compX x = some x') (hlo:optX lo = some lo') (hhi:optX hi = some hi') (h:evI P w0 (.slc x' lo' hi' wd) s K):EOk P w0 cx o a ρ s K w := by
 simp only [evI] at h
 obtain ⟨z,hA1,hR⟩ := getC_R hE hx h
 clear h
 obtain ⟨k1,l,h,hl⟩ := opt_R (d := 0) hE hlo hA1
 clear hA1
 have hl:(lo = none ∧ l = 0) ∨ ∃ y,lo = some y ∧ a.eval y = .int k1 l := by simpa using hl
 have hsame:∀ {t:Ren},t = [] → Core w0 cx (ρ ++ t) s.H w := fun ht => by subst ht; rw [List.append_nil]; exact hC
 split at h
 case h_1 b n =>
   obtain ⟨k2,r,⟨⟨h0,h1,h2⟩,hK⟩,hh⟩ := opt_R hE hhi h
   clear h
   obtain ⟨e1,hρ,hRv⟩ := hR
   rcases hK with ⟨hK1,hK2,hK3⟩ | ⟨hl0,hK⟩
   · rcases hRv with ⟨g,hg,hv,hnc⟩ | ⟨hg,hn,hv⟩
     · have hr := run_slc hu hs hop hv hl hh h0 h1 (by omega) w
       by_cases hlc:l < e1.2
       · refine eok_of_run ⟨_,s,[],_,w,hK1 e1.2 (by omega) hlc,rfl,⟨g,by rw [List.append_nil,at_of_get hρ,hg],rfl,by omega⟩,hsame rfl,?_⟩
         rw [hr,if_neg (by omega)]
         simp [addr_add]
       · have hln:l = n := by omega
         refine eok_of_run ⟨_,s,[],_,w,hK2 hln,rfl,⟨g,by rw [List.append_nil,at_of_get hρ,hg],rfl,Nat.le_refl _⟩,hsame rfl,?_⟩
         rw [hr,if_pos (by omega)]
         have e3:r.toNat - l.toNat = 0 := by omega
         have e4:e1.2 - l.toNat = 0 := by omega
         rw [e3,e4]
         simp
     · subst hn
       have hl0:l = 0 := by omega
       subst hl0
       have hr0:r = 0 := by omega
       subst hr0
       have hr := run_slc hu hs hop hv hl hh (by omega) (by omega) (by omega) w
       refine eok_of_run ⟨_,s,[],_,w,hK3 rfl rfl,rfl,⟨rfl,rfl⟩,hsame rfl,?_⟩
       rw [hr]
       rfl
   · subst hl0
     split at hK
     case h_2 => exact hK.elim
     case h_1 α wr T en bs wd' xs hb =>
       obtain ⟨_,hp⟩ := setF_spec hK
       have hK' := pushF_spec hp
       obtain ⟨e2,hρ2,h3,hlen,h4⟩ := hC.rh.get hb
       rw [hρ] at hρ2
       cases hρ2
       have hid:(ρ ++ [e1])[0 + (s.H.set b .dead).length]? = some e1 := by rw [Nat.zero_add,List.length_set,← hC.rh.len]; simp
       have hmove:Core w0 cx (ρ ++ [e1]) (s.H.set b .dead ++ [.vec wr T en bs wd' (xs.take r.toNat)]) w := by
         refine hC.move hb rfl hρ rfl rfl rfl (Nat.le_refl _) (fun _ _ _ => rfl) ⟨h3,hlen,?_⟩ fun g hg => ⟨.inl hg,(hC.rh.ok b _ _ hb hρ).block rfl (.inl hg)⟩
         rcases h4 with ⟨h4,hx0,hz⟩ | ⟨g',arr,fz,k2,k3,k4,k5,hc,⟨sp,k6,k7⟩,k8⟩
         · exact .inl ⟨h4,by rw [hx0]; simp,hz⟩
         · refine .inr ⟨g',arr,fz,k2,k3,k4,by rw [List.length_take]; omega,hc,?_,k8⟩
           have hsplit:flat en bs xs = flat en bs (xs.take r.toNat) ++ flat en bs (xs.drop r.toNat) := by
             conv => lhs; rw [← List.take_append_drop r.toNat xs]
             simp only [flat,List.flatMap_append]
           rw [hsplit,List.append_assoc] at k6
           obtain ⟨m1,m2,hm,hA1,hA2⟩ := k6.split_
           refine ⟨List.replicate m2.length .any,?_,fun x hx => List.eq_of_mem_replicate hx⟩
           rw [hm]
           refine (hA1.mono fun _ _ => CV.R.more _).append ?_
           have ho := hA2.one'
           clear hA2 hm
           induction m2 with
           | nil => exact .nil
           | cons x r ih => exact .cons (ho x (by simp)) (ih fun u hu => ho u (by simp [hu]))
       rcases hRv with ⟨g,hg,hv,hnc⟩ | ⟨hg,hn,hv⟩
       · have hr := run_slc hu hs hop hv hl hh (Int.le_refl _) h1 (by omega) w
         refine eok_of_run ⟨_,_,[e1],_,w,hK',rfl,⟨e1,hid,.inl ⟨g,hg,rfl,by omega⟩⟩,hmove,?_⟩
         rw [hr]
         split <;> simp [addr_add]
       · subst hn
         have hr0:r = 0 := by omega
         subst hr0
         have hr := run_slc hu hs hop hv hl hh (Int.le_refl _) (Int.le_refl _) (by omega) w
         refine eok_of_run ⟨_,_,[e1],.slice none 0 0,w,hK',rfl,⟨e1,hid,.inr ⟨hg,rfl,rfl⟩⟩,hmove,?_⟩
         rw [hr]
         simp
 case h_2 b wd' o' n c =>
   obtain ⟨k2,r,hch,hh⟩ := opt_R hE hhi h
   clear h
   obtain ⟨hw,⟨h0,h1,h2⟩,hK1,hK2⟩ := chk_spec hch
   have hw2:wd' = wd := by simpa using hw
   subst hw2
   obtain ⟨g,hg,hv,hnc⟩ := hR
   have hr := run_slc hu hs hop hv hl hh h0 h1 (by omega) w
   by_cases hlc:l < c
   · refine eok_of_run ⟨_,s,[],_,w,hK1 hlc,rfl,⟨g,by rw [List.append_nil,hg],rfl,by omega⟩,hsame rfl,?_⟩
     rw [hr,if_neg (by omega)]
     simp [addr_add,Nat.add_mul]
   · have hln:l = n := by omega
     refine eok_of_run ⟨_,s,[],_,w,hK2 hln hlc,rfl,⟨g,by rw [List.append_nil,hg],rfl,Nat.le_refl _⟩,hsame rfl,?_⟩
     rw [hr,if_pos (by omega)]
     have e3:r.toNat - l.toNat = 0 := by omega
     have e4:c - l.toNat = 0 := by omega
     rw [e3,e4]
 case h_3 =>
   obtain ⟨k2,r,⟨hl0,hr0,hK⟩,hh⟩ := opt_R (d := 0) hE hhi h
   clear h
   subst hl0
   subst hr0
   have hr := run_slc hu hs hop hR.1 hl (by simpa using hh) (Int.le_refl _) (Int.le_refl _) (by omega) w
   rcases hK with hK | ⟨T,α,en,hw,hlen,hp⟩
   · refine eok_of_run ⟨_,s,[],_,w,hK,rfl,⟨rfl,rfl⟩,hsame rfl,?_⟩
     rw [hr]
     rfl
   · have hK' := pushF_spec hp
     refine eok_of_run ⟨_,_,[(none,0)],.slice none 0 0,w,hK',rfl,⟨(none,0),?_,.inr ⟨rfl,rfl,rfl⟩⟩,?_,?_⟩
     · rw [Nat.zero_add,List.getElem?_append_right (by rw [hC.rh.len]; exact Nat.le_refl _),hC.rh.len,Nat.sub_self]
       rfl
     · exact hC.pushG (e' := (none,0)) (w' := w) rfl rfl rfl (Nat.le_refl _) (fun _ _ => rfl) ⟨hw,hlen,.inl ⟨rfl,rfl,rfl⟩⟩ (fun g hg => by cases hg)
     · rw [hr]
       rfl
 case h_4 ad n c =>
   obtain ⟨k2,r,⟨⟨h0,h1,h2⟩,hK⟩,hh⟩ := opt_R hE hhi h
   clear h
   have hr := run_slc hu hs hop hR.1 hl hh h0 h1 h2 w
   refine eok_of_run ⟨_,s,[],_,w,hK,rfl,⟨rfl,rfl⟩,hsame rfl,?_⟩
   rw [hr]
   split <;> rfl
 case h_5 => exact h.elim
theorem q_slq (hE:EnvR ρ s.env a.tmps) {t e:TypeId} {wd:Nat} {x:Operand} {lo hi:Option Operand} {x':X} {lo' hi':Option X} (hop:o.op = .slice t x lo hi none) (hu:P.underlying t = some (.slice e)) (hs:sizeT P e = some wd)
   (hx:compX x = some x') (hlo:optX lo = some lo') (hhi:optX hi = some hi') (h:evI P w0 (.slq x' lo' hi' wd) s K):QOk P o a ρ s K := by
 simp only [evI] at h
 obtain ⟨z,hA1,hR⟩ := getC_R hE hx h
 clear h
 obtain ⟨k1,l,h,hl⟩ := opt_R (d := 0) hE hlo hA1
 clear hA1
 have hl:(lo = none ∧ l = 0) ∨ ∃ y,lo = some y ∧ a.eval y = .int k1 l := by simpa using hl
 split at h
 case h_1 b n =>
   obtain ⟨k2,r,⟨⟨h0,h1,h2⟩,hK⟩,hh⟩ := opt_R hE hhi h
   clear h
   obtain ⟨e1,hρ,hRv⟩ := hR
   rcases hK with ⟨hK1,hK2,hK3⟩ | hK
   · rcases hRv with ⟨g,hg,hv,hnc⟩ | ⟨hg,hn,hv⟩
     · have hr := fun w => run_slc hu hs hop hv hl hh h0 h1 (by omega) w
       by_cases hlc:l < e1.2
       · refine ⟨_,_,hK1 e1.2 (by omega) hlc,⟨g,by rw [at_of_get hρ,hg],rfl,by omega⟩,fun w' => ?_⟩
         rw [hr,if_neg (by omega)]
         simp [addr_add]
       · have hln:l = n := by omega
         refine ⟨_,_,hK2 hln,⟨g,by rw [at_of_get hρ,hg],rfl,Nat.le_refl _⟩,fun w' => ?_⟩
         rw [hr,if_pos (by omega)]
         have e3:r.toNat - l.toNat = 0 := by omega
         have e4:e1.2 - l.toNat = 0 := by omega
         rw [e3,e4]
         simp
     · subst hn
       have hl0:l = 0 := by omega
       subst hl0
       have hr0:r = 0 := by omega
       subst hr0
       have hr := fun w => run_slc hu hs hop hv hl hh (by omega) (by omega) (by omega) w
       refine ⟨_,_,hK3 rfl rfl,⟨rfl,rfl⟩,fun w' => ?_⟩
       rw [hr]
       rfl
   · rcases hRv with ⟨g,hg,hv,hnc⟩ | ⟨hg,hn,hv⟩
     · have hr := fun w => run_slc hu hs hop hv hl hh h0 h1 (by omega) w
       refine ⟨_,_,hK (if e1.2 = l.toNat then 0 else l.toNat * wd),⟨e1,hρ,.inl ⟨g,hg,rfl,by omega,fun hlt => if_neg (by omega)⟩⟩,fun w' => ?_⟩
       rw [hr]
       split <;> simp [addr_add]
     · subst hn
       have hl0:l = 0 := by omega
       subst hl0
       have hr0:r = 0 := by omega
       subst hr0
       have hr := fun w => run_slc hu hs hop hv hl hh (by omega) (by omega) (by omega) w
       refine ⟨_,_,hK 0,⟨e1,hρ,.inr ⟨hg,rfl,rfl,rfl⟩⟩,fun w' => ?_⟩
       rw [hr]
       rfl
 case h_2 b wd' o' n c =>
   obtain ⟨k2,r,hch,hh⟩ := opt_R hE hhi h
   clear h
   obtain ⟨hw,⟨h0,h1,h2⟩,hK1,hK2⟩ := chk_spec hch
   have hw2:wd' = wd := by simpa using hw
   subst hw2
   obtain ⟨g,hg,hv,hnc⟩ := hR
   have hr := fun w => run_slc hu hs hop hv hl hh h0 h1 (by omega) w
   by_cases hlc:l < c
   · refine ⟨_,_,hK1 hlc,⟨g,hg,rfl,by omega⟩,fun w' => ?_⟩
     rw [hr,if_neg (by omega)]
     simp [addr_add,Nat.add_mul]
   · have hln:l = n := by omega
     refine ⟨_,_,hK2 hln hlc,⟨g,hg,rfl,Nat.le_refl _⟩,fun w' => ?_⟩
     rw [hr,if_pos (by omega)]
     have e3:r.toNat - l.toNat = 0 := by omega
     have e4:c - l.toNat = 0 := by omega
     rw [e3,e4]
 case h_3 =>
   obtain ⟨k2,r,⟨hl0,hr0,hK⟩,hh⟩ := opt_R (d := 0) hE hhi h
   clear h
   subst hl0
   subst hr0
   have hr := fun w => run_slc hu hs hop hR.1 hl (by simpa using hh) (Int.le_refl _) (Int.le_refl _) (by omega) w
   rcases hK with hK | hK
   · refine ⟨_,_,hK,⟨rfl,rfl⟩,fun w' => ?_⟩
     rw [hr]
     rfl
   · exact hK.elim
 case h_4 ad n c =>
   obtain ⟨k2,r,⟨⟨h0,h1,h2⟩,hK⟩,hh⟩ := opt_R hE hhi h
   clear h
   have hr := fun w => run_slc hu hs hop hR.1 hl hh h0 h1 h2 w
   refine ⟨_,_,hK,⟨rfl,rfl⟩,fun w' => ?_⟩
   rw [hr]
   split <;> rfl
 case h_5 b wd' o' n p =>
   obtain ⟨k2,r,hch,hh⟩ := opt_R hE hhi h
   clear h
   obtain ⟨hw,⟨h0,h1,h2⟩,hK⟩ := chk_spec hch
   have hw2:wd' = wd := by simpa using hw
   subst hw2
   obtain ⟨e1,hρ,hRv⟩ := hR
   rcases hRv with ⟨g,hg,hv,hnc,hp⟩ | ⟨hg,hn,ho,hv⟩
   · have hr := fun w => run_slc hu hs hop hv hl hh h0 h1 (by omega) w
     refine ⟨_,_,hK (if e1.2 - o' = l.toNat then p else p + l.toNat * wd'),⟨e1,hρ,.inl ⟨g,hg,rfl,by omega,fun hlt => ?_⟩⟩,fun w' => ?_⟩
     · rw [if_neg (by omega),hp (by omega),Nat.add_mul]
     · rw [hr,Nat.sub_sub]
       split <;> simp [addr_add]
   · subst hn ho
     have hl0:l = 0 := by omega
     subst hl0
     have hr0:r = 0 := by omega
     subst hr0
     have hr := fun w => run_slc hu hs hop hv hl hh (by omega) (by omega) (by omega) w
     refine ⟨_,_,hK 0,⟨e1,hρ,.inr ⟨hg,rfl,rfl,rfl⟩⟩,fun w' => ?_⟩
     rw [hr]
     rfl
 case h_6 => exact h.elim
theorem run_sla {t e:TypeId} {wd n:Nat} (hu:P.underlying t = some (.array n e)) (hs:sizeT P e = some wd) {x:Operand} {lo hi:Option Operand} (hop:o.op = .slice t x lo hi none) {ad:Addr} (he:a.eval x = .pointer (some ad)) {k1 k2:IntKind} {l h:Int}
   (hl:(lo = none ∧ l = 0) ∨ ∃ y,lo = some y ∧ a.eval y = .int k1 l) (hh:(hi = none ∧ h = n) ∨ ∃ y,hi = some y ∧ a.eval y = .int k2 h) (h0:0 ≤ l) (h1:l ≤ h) (h2:h ≤ n) (w':World) :
   (execOp a.eval o).run P w' = .ok (.value (.slice (some (if n = l.toNat then ad else ad.add (l.toNat * wd))) (h.toNat - l.toNat) (n - l.toNat))) w' := by
 have g0:0 ≤ h := by omega
 have g1:l ≤ (h.toNat:Int) := by omega
 have g2:l.toNat ≤ h.toNat := by omega
 rcases hl with ⟨rfl,rfl⟩ | ⟨y,rfl,hy⟩
 · rcases hh with ⟨rfl,rfl⟩ | ⟨z,rfl,hz⟩
   · simp [execOp,hop,he,Instr.sliceAt,Instr.sureAddr,Instr.sliceBounds,run_underlying hu,run_sizeT hs]
   · simp [execOp,hop,he,hz,Instr.sliceAt,Instr.sureAddr,Instr.sliceBounds,Instr.sliceBound,asIntOf,run_underlying hu,run_sizeT hs,g0,h2]
 · rcases hh with ⟨rfl,rfl⟩ | ⟨z,rfl,hz⟩
   · simp [execOp,hop,he,hy,Instr.sliceAt,Instr.sureAddr,Instr.sliceBounds,Instr.sliceBound,asIntOf,run_underlying hu,run_sizeT hs,h0,h1]
   · simp [execOp,hop,he,hy,hz,Instr.sliceAt,Instr.sureAddr,Instr.sliceBounds,Instr.sliceBound,asIntOf,run_underlying hu,run_sizeT hs,g0,h2,h0]
     intro hm
     exact absurd hm (by omega)
theorem q_sla (hE:EnvR ρ s.env a.tmps) {t e:TypeId} {wd n:Nat} {x:Operand} {lo hi:Option Operand} {x':X} {lo' hi':Option X} (hop:o.op = .slice t x lo hi none) (hu:P.underlying t = some (.array n e)) (hs:sizeT P e = some wd)
   (hx:compX x = some x') (hlo:optX lo = some lo') (hhi:optX hi = some hi') (h:evI P w0 (.sla x' lo' hi' wd n) s K):QOk P o a ρ s K := by
 simp only [evI] at h
 obtain ⟨z,hA1,hR⟩ := getC_R hE hx h
 clear h
 obtain ⟨k1,l,h,hl⟩ := opt_R (d := 0) hE hlo hA1
 clear hA1
 have hl:(lo = none ∧ l = 0) ∨ ∃ y,lo = some y ∧ a.eval y = .int k1 l := by simpa using hl
 obtain ⟨k2,r,h,hh⟩ := opt_R hE hhi h
 split at h
 case h_1 b =>
   obtain ⟨⟨⟨h0,h1,h2⟩,h3⟩,hK⟩ := h
   obtain ⟨g,hg,he⟩ := hR
   refine ⟨_,_,hK,⟨g,hg,rfl,by omega⟩,fun w' => ?_⟩
   rw [run_sla hu hs hop he hl hh h0 h1 h2 w',if_neg (by omega)]
   simp [addr_add]
 case h_2 b off =>
   obtain ⟨hw,⟨⟨h0,h1,h2⟩,h3⟩,hK⟩ := chk_spec h
   have hw1:wd = 1 := by simpa using hw
   subst hw1
   obtain ⟨g,hg,he⟩ := hR
   refine ⟨_,_,hK,⟨g,hg,rfl,by omega⟩,fun w' => ?_⟩
   rw [run_sla hu hs hop he hl hh h0 h1 h2 w',if_neg (by omega)]
   simp [addr_add]
 case h_3 => exact h.elim
theorem e_sll (hE:EnvR ρ s.env a.tmps) (hC:Core w0 cx ρ s.H w) {t e:TypeId} {wd n:Nat} {x:Operand} {lo hi:Option Operand} {x':X} {hi':Option X} (hop:o.op = .slice t x lo hi none) (hu:P.underlying t = some (.array n e)) (hs:sizeT P e = some wd)
   (hx:compX x = some x') (hlo:optX lo = some none) (hhi:optX hi = some hi') (h:evI P w0 (.sll x' hi' wd n) s K):EOk P w0 cx o a ρ s K w := by
 simp only [evI] at h
 obtain ⟨z,hA1,hR⟩ := getC_R hE hx h
 clear h
 have hl:(lo = none ∧ (0:Int) = 0) ∨ ∃ y,lo = some y ∧ a.eval y = .int .i64 0 := by
   cases lo with
   | none => exact .inl ⟨rfl,rfl⟩
   | some y =>
     simp only [optX] at hlo
     cases hc:compX y with
     | none => rw [hc] at hlo; cases hlo
     | some q => rw [hc] at hlo; cases hlo
 obtain ⟨k2,r,h,hh⟩ := opt_R hE hhi hA1
 split at h
 case h_3 => exact h.elim
 case h_2 b off =>
   obtain ⟨hw,⟨⟨h1,h2⟩,h3⟩,hK⟩ := chk_spec h
   have hw1:wd = 1 := by simpa using hw
   subst hw1
   obtain ⟨g,hg,he⟩ := hR
   have hrun:(execOp a.eval o).run P w = .ok (.value (.slice (some ⟨g,off + 1,none⟩) r.toNat n)) w := by
     rw [run_sla hu hs hop he hl hh (Int.le_refl _) h1 h2 w,if_neg (by omega)]
     simp [addr_add]
   exact eok_of_run ⟨_,s,[],_,w,hK,rfl,by rw [List.append_nil]; exact ⟨g,hg,by rw [Nat.mul_one],by omega⟩,by rw [List.append_nil]; exact hC,hrun⟩
 case h_1 b =>
   obtain ⟨⟨⟨h1,h2⟩,h3⟩,hK⟩ := h
   obtain ⟨g,hg,he⟩ := hR
   have hrun:(execOp a.eval o).run P w = .ok (.value (.slice (some ⟨g,0,none⟩) r.toNat n)) w := by
     rw [run_sla hu hs hop he hl hh (Int.le_refl _) h1 h2 w,if_neg (by omega)]
     simp [addr_add]
   rcases hK with hK | hK
   · exact eok_of_run ⟨_,s,[],_,w,hK,rfl,by rw [List.append_nil]; exact ⟨g,hg,by rw [Nat.zero_mul],by omega⟩,by rw [List.append_nil]; exact hC,hrun⟩
   · split at hK
     case h_2 => exact hK.elim
     case h_1 T cs hb =>
       obtain ⟨hw,hcl,hn,α,en,bs,xs,hlen,hxl,hfl,hK⟩ := hK
       obtain ⟨_,hp⟩ := setF_spec hK
       have hK' := pushF_spec hp
       obtain ⟨e1,hρ,g',arr,k1,k2',k3⟩ := hC.rh.get hb
       have hgg:g' = g := by
         rw [at_of_get hρ,k1] at hg
         exact Option.some.inj hg
       subst hgg
       have hid:(ρ ++ [(some g',n)])[0 + (s.H.set b .dead).length]? = some (some g',n) := by rw [Nat.zero_add,List.length_set,← hC.rh.len]; simp
       have hal:arr.size = cs.length := by rw [k3.length,Array.length_toList]
       have hmove:Core w0 cx (ρ ++ [(some g',n)]) (s.H.set b .dead ++ [.vec true T en bs wd xs]) w := by
         refine hC.move hb rfl hρ rfl rfl rfl (Nat.le_refl _) (fun _ _ _ => rfl) ⟨hw,hlen,.inr ⟨g',arr,(0,0),rfl,k2',by rw [hal,hcl],by rw [hxl]; show r.toNat ≤ n; omega,hn,?_,fun _ => rfl⟩⟩ fun gg hgg => ?_
         · have hsplit:cs = cs.take (r.toNat * wd) ++ cs.drop (r.toNat * wd) := (List.take_append_drop _ _).symm
           rw [hsplit] at k3
           obtain ⟨m1,m2,hm,hA1,hA2⟩ := k3.split_
           refine ⟨List.replicate m2.length .any,?_,fun x hx => List.eq_of_mem_replicate hx⟩
           rw [hm,hfl]
           refine (hA1.mono fun _ _ => CV.R.more _).append ?_
           have hgen:∀ (l:List CV) (vs:List Value),All2 (CV.R ρ) l vs → All2 (CV.R (ρ ++ [(some g',n)])) (List.replicate vs.length .any) vs := by
             intro l vs hA
             induction hA with
             | nil => exact .nil
             | cons hx _ ih => exact .cons hx.one ih
           exact hgen _ _ hA2
         · cases hgg
           exact ⟨.inl k1,(hC.rh.ok b _ _ hb hρ).block rfl (.inl k1)⟩
       exact eok_of_run ⟨_,_,_,_,w,hK',rfl,⟨_,hid,.inl ⟨g',rfl,rfl,by show r.toNat ≤ n; omega⟩⟩,hmove,hrun⟩
theorem e_ala (hC:Core w0 cx ρ s.H w) {t:TypeId} {z:List Value} (hop:o.op = .alloc t) (hz:zeroT P t = some z) (h:evI P w0 (.ala t z) s K):EOk P w0 cx o a ρ s K w := by
 simp only [evI] at h
 obtain ⟨h1,v,hv,hzr⟩ := zeroT_spec hz
 rcases h with h | ⟨α,e,bs,wd,xs,hwd,hlen,hfl,hxl,h⟩
 · have h := pushF_spec (mapF_spec h)
   refine eok_of_run ⟨_,_,_,_,_,h,rfl,R_new hC (cap := 0),hC.cells_new (arr := v.cells) (by rw [hv]; exact zero_R h1),?_⟩
   simp [execOp,hop,Instr.alloc,hzr,newVar,run_new]
 · have h := pushF_spec h
   obtain ⟨f1,f2,f3,f4⟩ := alloc_facts (w := w) (.cells v.cells t)
   have hsz:v.cells.size = xs.length * wd := by
     rw [← Array.length_toList,hv,← flat_length hlen xs,hfl,List.length_map]
   have hCn:Core w0 cx (ρ ++ [(some w.heap.size,xs.length)]) (s.H ++ [.vec true t e bs wd xs]) (w.alloc (.cells v.cells t)) :=
     hC.push f1 f2 f3 f4 ⟨hwd,hlen,.inr ⟨w.heap.size,v.cells,(0,0),rfl,by rw [f4]; simp,hsz,Nat.le_refl _,hxl,⟨[],by
       rw [List.append_nil,hfl,hv]
       exact (zero_R h1).mono fun _ _ => CV.R.more _,by simp⟩,fun _ => rfl⟩⟩
   refine eok_of_run ⟨_,_,_,_,_,h,rfl,R_new hC (cap := xs.length),hCn,?_⟩
   simp [execOp,hop,Instr.alloc,hzr,newVar,run_new]
theorem e_s2b (hE:EnvR ρ s.env a.tmps) (hC:Core w0 cx ρ s.H w) {src dst e:TypeId} {x:Operand} {x':X} (hop:o.op = .convert src dst x) (hsrc:P.underlying src = some .string) (hdst:P.underlying dst = some (.slice e)) (he:P.underlying e = some (.int .u8))
   (hx:compX x = some x') (h:evI P w0 (.s2b e x') s K):EOk P w0 cx o a ρ s K w := by
 simp only [evI] at h
 obtain ⟨b,⟨hsz,hp⟩,hv⟩ := getS_R hE hx h
 have hK := pushF_spec hp
 have hge := grownCap_ge w b.size 0 e
 have hle := grownCap_le_maxLen w b.size 0 e (by simp only [maxLen]; omega)
 have hrun:(execOp a.eval o).run P w = .ok (.value (.slice (some ⟨w.heap.size,0,none⟩) b.size (grownCap w b.size 0 e))) (Lib.bytesWorld w e b) := by
   simp only [execOp,hop,hv,Sem.run_bind,Lib.run_convert_string_bytes w src dst e b hsrc hdst he,Result.andThen_ok]
   rfl
 have hbl:(bytesOf b).length = b.size := by simp [bytesOf]
 refine eok_of_run ⟨_,_,[(some w.heap.size,grownCap w b.size 0 e)],.slice (some ⟨w.heap.size,0,none⟩) b.size (grownCap w b.size 0 e),Lib.bytesWorld w e b,hK,rfl,⟨(some w.heap.size,grownCap w b.size 0 e),by rw [Nat.zero_add,← hC.rh.len]; simp,.inl ⟨w.heap.size,rfl,by rw [hbl],by rw [hbl]; exact hge⟩⟩,?_,hrun⟩
 have hsz2 := Lib.bytesWorld_size w e b
 refine hC.pushG (e' := (some w.heap.size,grownCap w b.size 0 e)) (w' := Lib.bytesWorld w e b) (k := .vec false e (encI .u8) [] 1 (bytesOf b)) rfl rfl rfl (by omega) (fun j hj => Lib.bytesWorld_at_old w e b j hj) ⟨by omega,fun _ => rfl,.inr ⟨w.heap.size,Lib.bytesCells w e b,_,rfl,Lib.bytesWorld_at_new w e b,?_,by simpa [bytesOf] using hge,by simpa [maxLen] using hle,⟨List.replicate (grownCap w b.size 0 e - b.size) .any,?_,fun x hx => List.eq_of_mem_replicate hx⟩,fun h => by cases h⟩⟩ fun g hg => by cases hg; exact ⟨Nat.le_refl _,by omega⟩
 · simp only [Lib.bytesCells,Array.size_append,Array.size_map,Array.size_replicate,Nat.mul_one]
   exact Nat.add_sub_cancel' hge
 · simp only [Lib.bytesCells,Array.toList_append,Array.toList_map,Array.toList_replicate]
   refine All2.append ?_ ?_
   · simp only [bytesOf]
     generalize b.data.toList = l
     induction l with
     | nil => exact .nil
     | cons x r ih => exact .cons ⟨rfl,rfl⟩ ih
   · generalize grownCap w b.size 0 e - b.size = n
     induction n with
     | zero => exact .nil
     | succ n ih => exact .cons rfl ih
theorem flat_encI (k:IntKind):∀ l:List Int,flat (encI k) [] l = l.map fun x => CV.val (.int k x)
 | [] => rfl
 | x :: r => by
   have := flat_encI k r
   simp only [flat,List.flatMap_cons,List.map_cons] at this ⊢
   rw [this]
   rfl
theorem b2s_run {H:List Blk} (hC:RH w0 ρ H w) {src dst e:TypeId} {x:Operand} (hop:o.op = .convert src dst x) (hsrc:P.underlying src = some (.slice e)) (hdst:P.underlying dst = some .string) (he:P.underlying e = some (.int .u8))
   {c:CV} (hR:c.R ρ (a.eval x)) (hns:notStr c) {l:List Int} (hs:Go.Vc.src w0 H (encI .u8) [] 1 c l):(execOp a.eval o).run P w = .ok (.value (.string (strOf l))) w := by
 obtain ⟨news,hA,hL,hF⟩ := src_sound (P := P) (s := ⟨[],H⟩) hC (fun _ => rfl) hR hs
 have hnews:news = l.map (Value.int .u8) := by
   rw [flat_encI] at hA
   clear hL hF hs
   induction l generalizing news with
   | nil => cases hA; rfl
   | cons x r ih =>
     cases hA with
     | cons hx hr => rw [hx.1,ih _ hr]; rfl
 have hF' := hF w rfl
 have hL' := hL w
 cases hv:a.eval x <;> simp only [hv,Builtin.lenOf,run_stuck,reduceCtorEq,Sem.run_pure,Result.ok.injEq] at hL'
 case slice A n cap =>
   obtain ⟨rfl,_⟩ := hL'
   cases A with
   | none =>
     rw [hv] at hF'
     simp only [Builtin.firstCells,Sem.run_pure,Result.ok.injEq] at hF'
     have hn:news = [] := by have := congrArg Array.toList hF'.1; simpa using this.symm
     have hl0:l = [] := by rw [hnews] at hn; simpa using hn
     subst hl0
     simp [execOp,hop,hv,convert,run_underlying hsrc,run_underlying hdst,run_underlying he,Conv.bytesToString,strOf]
   | some ad =>
     rw [hv] at hF'
     simp only [Builtin.firstCells,Nat.mul_one,hnews] at hF'
     have hb := run_bytesToString (P := P) w ad l.length cap l hF'
     simp only [execOp,hop,hv,Sem.run_bind,run_convert_bytes_string w src dst e _ _ _ hsrc he hdst,hb,Result.andThen_ok,strOf]
     rfl
 case string b =>
   exfalso
   cases c <;> simp only [CV.R,hv] at hR
   case val x => obtain ⟨rfl,_⟩ := hR; exact hns
   case ptr => obtain ⟨_,_,h⟩ := hR; cases h
   case row => obtain ⟨_,_,h⟩ := hR; cases h
   case sli => obtain ⟨_,_,h,_⟩ := hR; cases h
   case vec => obtain ⟨_,_,h⟩ := hR; rcases h with ⟨_,_,h,_⟩ | ⟨_,_,h⟩ <;> cases h
   case clo => obtain ⟨_,h,_⟩ := hR; cases h
   case ifc => obtain ⟨_,_,h⟩ := hR; cases h
   case bnd => obtain ⟨_,_,h⟩ := hR; cases h
   case kb => cases hR
   case any => exact hs
   case mem => obtain ⟨_,_,_,_,_,_,h⟩ := hR; rcases h with ⟨_,_,h,_⟩ | ⟨_,_,h⟩ <;> cases h
   case mrow => obtain ⟨_,_,_,_,_,_,_,_,h⟩ := hR; cases h
   case tl => obtain ⟨_,_,h⟩ := hR; rcases h with ⟨_,_,h,_⟩ | ⟨_,_,_,h⟩ <;> cases h
theorem src_val {α:Type} {H H':List Blk} {e:Enc α} {bs:List Nat} {wd:Nat} {y:Value} {ys:List α} (h:Go.Vc.src w0 H e bs wd (.val y) ys):Go.Vc.src w0 H' e bs wd (.val y) ys := by
 unfold Go.Vc.src at h ⊢
 split at h <;> simp_all
theorem q_b2s (hE:EnvR ρ s.env a.tmps) (hC:RH w0 ρ s.H w) {src dst e:TypeId} {x:Operand} {x':X} (hop:o.op = .convert src dst x) (hsrc:P.underlying src = some (.slice e)) (hdst:P.underlying dst = some .string) (he:P.underlying e = some (.int .u8))
   (hx:compX x = some x') (h:evI P w0 (.b2s x') s K) :
   ∃ y v,∃ C:World → Prop,K (.o y) s ∧ y.R ρ v ∧ C w ∧ (∀ w',C w' → (execOp a.eval o).run P w' = .ok (.value v) w') ∧
     ∀ ρ' H' w',RH w0 ρ' H' w' → (∃ t,ρ' = ρ ++ t) → (∀ c,x'.get s.env = some (.o (.c c)) → c.isV = false → ldv w0 H' c .str (fun b => b = y ∧ y.sure = true)) → C w' := by
 simp only [evI] at h
 obtain ⟨c,hg,⟨hns,l,hs,hK⟩,hR⟩ := getC_R' hE hx h
 refine ⟨_,_,fun w' => (execOp a.eval o).run P w' = .ok (.value (.string (strOf l))) w',hK,⟨rfl,rfl⟩,b2s_run hC hop hsrc hdst he hR hns hs,fun w' h => h,?_⟩
 rintro ρ' H' w' hC' ⟨t,rfl⟩ hk
 cases hv:c.isV with
 | true =>
   have hcn:c.norm.isV = true := by cases c <;> first | exact hv | cases hv | rfl
   have hR2 := hR.more t
   generalize c.norm = d at *
   cases d <;> first | cases hcn | skip
   exact b2s_run hC' hop hsrc hdst he hR2 hns (src_val hs)
 | false =>
   obtain ⟨hns',l',hs',h1,_⟩ := hk c hg hv
   rcases CV.norm_isV hv with hn | ⟨b,rfl⟩
   · rw [hn] at hR
     have h2 := b2s_run hC' hop hsrc hdst he (hR.more t) hns' hs'
     have h3:strOf l' = strOf l := by injection h1 with h1; injection h1 with h1; injection h1
     rw [h2,h3]
   · exact absurd hs' (by intro h; exact h)
theorem set_same {H:List Blk} {b:Nat} {k:Blk} (h:H[b]? = some k):H.set b k = H := by
 apply List.ext_getElem?
 intro i
 by_cases hi:b = i
 · subst hi
   rw [List.getElem?_set_self (List.getElem?_eq_some_iff.1 h).1,h]
 · rw [List.getElem?_set_ne hi]
theorem flat_append {α:Type} {e:Enc α} {bs:List Nat} (xs ys:List α):flat e bs (xs ++ ys) = flat e bs xs ++ flat e bs ys := by simp [flat]
theorem cutC_spec {n:Nat} {d:CV} {k:CV → Prop} {v:Value} (hR:d.R ρ v) (h:cutC n d k) :
   ∃ d' v' m,k d' ∧ d'.R ρ v' ∧ (∀ w',(Builtin.lenOf v).run P w' = .ok m w') ∧ (∀ w',(Builtin.lenOf v').run P w' = .ok (min m n) w') ∧ ∀ wd q w',(Builtin.firstCells wd q v).run P w' = (Builtin.firstCells wd q v').run P w' := by
 unfold cutC at h
 split at h
 · rename_i b m
   obtain ⟨e,he,hR⟩ := hR
   rcases hR with ⟨g,hg,rfl,hc⟩ | ⟨hg,hm,rfl⟩
   · exact ⟨_,.slice (some ⟨g,0,none⟩) (min m n) e.2,m,h,⟨e,he,.inl ⟨g,hg,rfl,by omega⟩⟩,fun w' => rfl,fun w' => rfl,fun wd q w' => rfl⟩
   · subst hm
     exact ⟨_,.slice none 0 0,0,h,⟨e,he,.inr ⟨hg,by omega,rfl⟩⟩,fun w' => rfl,fun w' => by rw [Nat.zero_min]; rfl,fun wd q w' => rfl⟩
 · rename_i b wd o m c
   obtain ⟨g,hg,rfl,hc⟩ := hR
   exact ⟨_,.slice (some ⟨g,o * wd,none⟩) (min m n) c,m,h,⟨g,hg,rfl,by omega⟩,fun w' => rfl,fun w' => rfl,fun wd q w' => rfl⟩
 · exact h.elim
theorem e_cpy (hE:EnvR ρ s.env a.tmps) (hC:Core w0 cx ρ s.H w) {t e:TypeId} {x y:Operand} {x' y':X} {wd:Nat} {args:Array Operand} {ts:Array TypeId}
   (hop:o.op = .call { callee := .builtin .copy,args := args,argTypes := ts }) (hargs:args.toList = [x,y]) (hts:ts[0]? = some t) (ht:P.underlying t = some (.slice e))
   (hs:sizeT P e = some wd) (hx:compX x = some x') (hy:compX y = some y') (h:evI P w0 (.cpy wd x' y') s K):EOk P w0 cx o a ρ s K w := by
 simp only [evI] at h
 obtain ⟨c,hA1,hR⟩ := getC_R hE hx h
 clear h
 obtain ⟨d,h,hRd⟩ := getC_R hE hy hA1
 clear hA1
 have hav:args.map a.eval = #[a.eval x,a.eval y] := by apply Array.toList_inj.1; simp [hargs]
 have hrunop:∀ v' w',(Builtin.copy_ ts o.type #[a.eval x,a.eval y]).run P w = .ok v' w' → (execOp a.eval o).run P w = .ok (.value v') w' := by
   intro v' w' hr
   rw [run_call_builtin hop,hav]
   simp [builtin,hr]
 split at h
 case h_1 b n =>
   split at h
   case h_2 => exact h.elim
   case h_1 α wr T en bs wd' xs hbk =>
     obtain ⟨hck,hn,ys,hsrc,hle,hset⟩ := chk_spec h
     clear h
     simp only [Bool.and_eq_true] at hck
     obtain ⟨hwr,hw⟩ := hck
     have hw2:wd' = wd := by simpa using hw
     subst hwr hw2
     obtain ⟨_,hK⟩ := setF_spec hset
     obtain ⟨e1,hρ,h0,hlen,h2⟩ := hC.rh.get hbk
     obtain ⟨news,hAn,hL,hF⟩ := src_sound (P := P) hC.rh hlen hRd hsrc
     have hnl:news.length = ys.length * wd' := by rw [← hAn.length,flat_length hlen]
     obtain ⟨e1',he1,hRv⟩ := hR
     rw [hρ] at he1
     cases he1
     obtain ⟨eo,cap⟩ := e1
     have hgo:∀ (ys':Nat),goInt ys' = Value.int .i64 ys' := fun _ => rfl
     rcases h2 with ⟨h2,hx0,_⟩ | ⟨g',arr,fz,h2,h3,h4,h5,hc,⟨sp,h6,h7⟩,h8⟩
     · subst hx0
       have hn0:n = 0 := by simpa using hn
       subst hn0
       have hy0:ys = [] := List.length_eq_zero_iff.1 (by omega)
       subst hy0
       have hv:a.eval x = .slice none 0 0 := by
         rcases hRv with ⟨g,hg,_,_⟩ | ⟨_,_,hv⟩
         · rw [h2] at hg; cases hg
         · exact hv
       refine eok_of_run ⟨_,_,[],_,w,hK,rfl,⟨rfl,rfl⟩,?_,hrunop _ _ ?_⟩
       · rw [List.append_nil]
         simp only [List.nil_append,List.drop_nil]
         rw [set_same hbk]
         exact hC
       · have hF' := hF w rfl
         simp only [List.length_nil] at hF' hL
         simp [Builtin.copy_,hts,run_underlying ht,hv,hL,run_sizeT hs,hF']
         rfl
     · simp only at h2
       subst h2
       have hfz := h8 rfl
       subst hfz
       obtain ⟨hv,hnc⟩:a.eval x = .slice (some ⟨g',0,none⟩) n cap ∧ n ≤ cap := by
         rcases hRv with ⟨g,hg,hv,hnc⟩ | ⟨hg,_⟩
         · cases hg; exact ⟨hv,hnc⟩
         · cases hg
       have hF' := hF w rfl
       have hmul:ys.length * wd' ≤ xs.length * wd' := Nat.mul_le_mul_right _ (by omega)
       have hxl := flat_length hlen xs
       have hal:xs.length * wd' ≤ arr.size := by
         have := h6.length
         simp only [List.length_append,Array.length_toList] at this
         omega
       have hone:∀ u ∈ news,u.oneCell' = true := by
         intro u hu
         obtain ⟨k,hk,rfl⟩ := List.mem_iff_getElem.1 hu
         have hk2:k < (flat en bs ys).length := by rw [hAn.length]; exact hk
         obtain ⟨u',hu',hcu⟩ := hAn.at_ k _ (List.getElem?_eq_getElem hk2)
         rw [List.getElem?_eq_getElem hk] at hu'
         cases hu'
         exact hcu.one
       have hst := run_storeCells_at P g' 0 T news 0 arr w h3 (by rw [hnl]; simp only [Nat.zero_add]; omega) hone
       obtain ⟨f1,f2,f3,f4,f5⟩ := setRow_facts (w := w) g' (arr.toList.take (0 + 0) ++ news ++ arr.toList.drop (0 + 0 + news.length)).toArray
       refine eok_of_run ⟨_,_,[],_,w.setRow g' (arr.toList.take (0 + 0) ++ news ++ arr.toList.drop (0 + 0 + news.length)).toArray,hK,rfl,⟨rfl,rfl⟩,?_,hrunop _ _ ?_⟩
       · rw [List.append_nil]
         refine hC.set hbk rfl hρ f1 f2 f3 f4 f5 ⟨h0,hlen,.inr ⟨g',_,(0,0),rfl,setRow_heap w g' arr _ T _ h3,?_,?_,hc,⟨sp,?_,h7⟩,fun _ => rfl⟩⟩
         · simp only [List.size_toArray,List.length_append,List.length_take,List.length_drop,Array.length_toList]
           simp only at h4
           omega
         · simp only [List.length_append,List.length_drop]
           omega
         · simp only [Nat.add_zero,List.take_zero,List.nil_append,Nat.zero_add]
           rw [flat_append,List.append_assoc]
           refine All2.append hAn ?_
           rw [hnl,← flat_drop hlen _ _ (by omega)]
           have := h6.drop_ (ys.length * wd')
           rwa [List.drop_append_of_le_length (by omega)] at this
       · have hmin:Nat.min ys.length n = ys.length := Nat.min_eq_left hle
         simp [Builtin.copy_,hts,run_underlying ht,hv,hL,run_sizeT hs,hmin,hF',hst,hgo]
 case h_2 b wd1 o' n c' =>
   split at h
   case h_2 => exact h.elim
   case h_1 α wr T en bs wd' xs hbk =>
     obtain ⟨hck,hon,hcut⟩ := chk_spec h
     clear h
     simp only [Bool.and_eq_true] at hck
     obtain ⟨hwr,hw,hw1⟩ := hck
     have hw2:wd' = wd := by simpa using hw
     have hw3:wd1 = wd := by simpa using hw1
     subst hwr hw2 hw3
     obtain ⟨d',vd',m,⟨ys,hsrc,hset⟩,hRd',hLm,hLm',hfc⟩ := cutC_spec (P := P) hRd hcut
     obtain ⟨_,hK⟩ := setF_spec hset
     obtain ⟨e1,hρ,h0,hlen,h2⟩ := hC.rh.get hbk
     obtain ⟨news,hAn,hL,hF⟩ := src_sound (P := P) hC.rh hlen hRd' hsrc
     have hyl:ys.length = min m n := by
       have e1 := hL w
       rw [hLm' w] at e1
       injection e1 with e2 _
       exact e2.symm
     have hnl:news.length = ys.length * wd1 := by rw [← hAn.length,flat_length hlen]
     obtain ⟨g,hg,hv,hnc⟩ := hR
     obtain ⟨eo,cap⟩ := e1
     have hgo:∀ (ys':Nat),goInt ys' = Value.int .i64 ys' := fun _ => rfl
     rcases h2 with ⟨h2,_⟩ | ⟨g',arr,fz,h2,h3,h4,h5,hc,⟨sp,h6,h7⟩,h8⟩
     · rw [at_of_get hρ,h2] at hg; cases hg
     · simp only at h2
       subst h2
       rw [at_of_get hρ] at hg
       cases hg
       have hfz := h8 rfl
       subst hfz
       have hF' := hF w rfl
       have hmul:(o' + ys.length) * wd1 ≤ xs.length * wd1 := Nat.mul_le_mul_right _ (by omega)
       rw [Nat.add_mul] at hmul
       have hxl := flat_length hlen xs
       have hal:xs.length * wd1 ≤ arr.size := by
         have := h6.length
         simp only [List.length_append,Array.length_toList] at this
         omega
       have hone:∀ u ∈ news,u.oneCell' = true := by
         intro u hu
         obtain ⟨k,hk,rfl⟩ := List.mem_iff_getElem.1 hu
         have hk2:k < (flat en bs ys).length := by rw [hAn.length]; exact hk
         obtain ⟨u',hu',hcu⟩ := hAn.at_ k _ (List.getElem?_eq_getElem hk2)
         rw [List.getElem?_eq_getElem hk] at hu'
         cases hu'
         exact hcu.one
       have hst := run_storeCells_at P g (o' * wd1) T news 0 arr w h3 (by rw [hnl]; simp only [Nat.add_zero]; omega) hone
       obtain ⟨f1,f2,f3,f4,f5⟩ := setRow_facts (w := w) g (arr.toList.take (o' * wd1 + 0) ++ news ++ arr.toList.drop (o' * wd1 + 0 + news.length)).toArray
       refine eok_of_run ⟨_,_,[],_,w.setRow g (arr.toList.take (o' * wd1 + 0) ++ news ++ arr.toList.drop (o' * wd1 + 0 + news.length)).toArray,hK,rfl,⟨rfl,rfl⟩,?_,hrunop _ _ ?_⟩
       · rw [List.append_nil]
         refine hC.set hbk rfl hρ f1 f2 f3 f4 f5 ⟨h0,hlen,.inr ⟨g,_,(0,0),rfl,setRow_heap w g arr _ T _ h3,?_,?_,hc,⟨sp,?_,h7⟩,fun _ => rfl⟩⟩
         · simp only [List.size_toArray,List.length_append,List.length_take,List.length_drop,Array.length_toList]
           simp only at h4
           omega
         · simp only [List.length_append,List.length_take,List.length_drop]
           omega
         · simp only [Nat.add_zero]
           rw [flat_append,flat_append,List.append_assoc,List.append_assoc,List.append_assoc]
           have t1:flat en bs (xs.take o') = (flat en bs xs ++ sp).take (o' * wd1) := by
             rw [List.take_append_of_le_length (by omega),flat_take hlen _ _ (by omega)]
           have t2:flat en bs (xs.drop (o' + ys.length)) ++ sp = (flat en bs xs ++ sp).drop (o' * wd1 + news.length) := by
             rw [List.drop_append_of_le_length (by omega),hnl,← Nat.add_mul,flat_drop hlen _ _ (by omega)]
           rw [t1,t2]
           exact (h6.take_ _).append (hAn.append (h6.drop_ _))
       · have hmin:Nat.min m n = ys.length := hyl.symm
         simp [Builtin.copy_,hts,run_underlying ht,hv,hLm,run_sizeT hs,hmin,hfc,hF',hst,hgo]
 all_goals exact h.elim
end
end Go.Vc
end
section
namespace Go.Vc
open Go.RowKit (Below)
section
variable {P:Program} {w0:World} {cx:Cx} {ρ:Ren} {s:S} {K:AV → S → Prop} {a:Act} {o:Oper} {w:World}

theorem map_some {α β:Type} {f:α → β} {x:Option α} {y:β} (h:x.map f = some y):∃ z,x = some z ∧ f z = y := by
 cases x with
 | none => simp at h
 | some z => exact ⟨z,rfl,by simpa using h⟩
inductive Serves (P:Program) (w0:World) (cx:Cx) (o:Oper) (a:Act) (ρ:Ren) (s:S) (K:AV → S → Prop) (w:World) (i:I):Prop where
 | q (hq:i.quiet = true) (h:QOk P o a ρ s K)
 | l (x:Operand) (x':X) (t:TypeId) (n:Option Nat) (hi:i = .ld x' n) (hop:o.op = .load t x) (ha:aggT P t = some n) (hx:compX x = some x')
 | s (x:Operand) (x':X) (src dst e:TypeId) (hi:i = .b2s x') (hop:o.op = .convert src dst x) (hsrc:P.underlying src = some (.slice e)) (hdst:P.underlying dst = some .string) (he:P.underlying e = some (.int .u8)) (hx:compX x = some x')
 | e (hq:i.quiet = false) (h:EOk P w0 cx o a ρ s K w)
theorem serves_call (hE:EnvR ρ s.env a.tmps) (hC:Core w0 cx ρ s.H w) {c:Call} {i:I} (hop:o.op = .call c) (hi:compCall P c = some i) (h:evI P w0 i s K):Serves P w0 cx o a ρ s K w i := by
 obtain ⟨callee,args,ts⟩ := c
 unfold compCall at hi
 cases callee with
 | invoke r m =>
   simp only at hi
   split at hi
   · rename_i x l hr hx
     cases hi
     exact .e rfl (e_inv hE hC hop hr hx h)
   · cases hi
 | value f =>
   cases f with
   | func g =>
     simp only at hi
     obtain ⟨xs,hx,rfl⟩ := map_some hi
     exact .e rfl (e_call hE hC hop hx h)
   | tmp t =>
     simp only at hi
     obtain ⟨xs,hx,rfl⟩ := map_some hi
     exact .e rfl (e_clc hE hC hop hx h)
   | const v => simp at hi
   | global g => simp at hi
 | builtin b =>
   cases b <;> simp only [reduceCtorEq] at hi
   case len =>
     split at hi
     · rename_i x t ha ht
       split at hi
       · rename_i hu
         obtain ⟨x',hx,rfl⟩ := map_some hi
         exact .q rfl (q_len hE hop ha ht (.inl ⟨rfl,hu⟩) hx h)
       · rename_i e hu
         obtain ⟨x',hx,rfl⟩ := map_some hi
         exact .q rfl (q_len hE hop ha ht (.inr ⟨rfl,e,hu⟩) hx h)
       · cases hi
     · cases hi
   case cap =>
     split at hi
     · rename_i x t ha ht
       split at hi
       · rename_i e hu
         obtain ⟨x',hx,rfl⟩ := map_some hi
         exact .q rfl (q_cap hE hop ha ht ⟨e,hu⟩ hx h)
       · cases hi
     · cases hi
   case min =>
     split at hi
     · rename_i x l hx
       cases hi
       exact .q rfl (q_mn hE hop hx h)
     · cases hi
   case max =>
     split at hi
     · rename_i x l hx
       cases hi
       exact .q rfl (q_mx hE hop hx h)
     · cases hi
   case append =>
     split at hi
     · rename_i x y t u ha ht
       split at hi
       · rename_i e d x' y' hu1 hu2 hx hy
         split at hi
         · rename_i hd
           split at hi
           · rename_i wd bt z hs hb hz
             split at hi
             · rename_i hzl
               split at hi
               · cases hi
                 exact .e rfl (e_apx hE hC hop ha ht hu1 hu2 hd hs hb hz hzl hx hy h)
               · cases hi
                 exact .e rfl (e_app hE hC hop ha ht hu1 hu2 hd hs hb hz hzl hx hy h)
             · cases hi
           · cases hi
         · cases hi
       · cases hi
     · cases hi
   case copy =>
     split at hi
     · rename_i x y t l ha ht
       split at hi
       · rename_i e x' y' ht' hx hy
         obtain ⟨wd,hs,rfl⟩ := map_some hi
         exact .e rfl (e_cpy hE hC hop ha (by rw [← Array.getElem?_toList,ht]; rfl) ht' hs hx hy h)
       · cases hi
     · cases hi
   case clear =>
     simp only [Option.some.injEq] at hi
     subst hi
     exact (show False from h).elim
theorem serves (hE:EnvR ρ s.env a.tmps) (hC:Core w0 cx ρ s.H w) {i:I} (hi:compI P o = some i) (h:evI P w0 i s K):Serves P w0 cx o a ρ s K w i := by
 unfold compI at hi
 split at hi
 case h_1 x hop => obtain ⟨x',hx,rfl⟩ := map_some hi; exact .q rfl (q_mov hE (.inl hop) hx h)
 case h_2 x hop => obtain ⟨x',hx,rfl⟩ := map_some hi; exact .q rfl (q_mov hE (.inr hop) hx h)
 case h_3 x hop => obtain ⟨x',hx,rfl⟩ := map_some hi; exact .q rfl (q_nil hE hop hx h)
 case h_4 t x f hop =>
   split at hi
   · rename_i fs y hu hx
     split at hi
     · rename_i fd hf
       split at hi
       · rename_i n hs
         split at hi
         · cases hi
         · rename_i hn
           cases hi
           exact .q rfl (q_ffa hE hop hx hu hf hs hn h)
       · cases hi
     · cases hi
   · cases hi
 case h_5 t x f hop =>
   split at hi
   · rename_i fs y hu hx
     split at hi
     · rename_i fd hf
       obtain ⟨n,ha,rfl⟩ := map_some hi
       exact .q rfl (q_fld hE hop hx hu hf ha h)
     · cases hi
   · cases hi
 case h_6 t x hop =>
   split at hi
   · rename_i n y ha hx
     cases hi
     exact .l x y t n rfl hop ha hx
   · cases hi
 case h_7 t x v hop =>
   split at hi
   · rename_i n y z hs hx hv
     cases hi
     exact .e rfl (e_st hE hC hop hs hx hv h)
   · cases hi
 case h_8 c x y hop =>
   split at hi
   · rename_i c' x' y' hc hx hy
     cases hi
     exact .q rfl (q_pick hE hop hc hx hy h)
   · cases hi
 case h_9 op t x y u hop =>
   split at hi
   · rename_i x' y' hu hx hy
     split at hi
     · cases hi
       exact .q rfl (q_beq hE hop hu (.inl ⟨rfl,rfl⟩) hx hy h)
     · cases hi
       exact .q rfl (q_beq hE hop hu (.inr ⟨rfl,rfl⟩) hx hy h)
     · cases hi
   · rename_i ms x' hu hx hy
     split at hi
     · cases hi
       exact .q rfl (q_inl hE hop hu (.inl ⟨rfl,rfl⟩) hx hy h)
     · cases hi
       exact .q rfl (q_inl hE hop hu (.inr ⟨rfl,rfl⟩) hx hy h)
     · cases hi
   · rename_i ms x' k hu hx hy
     split at hi
     · cases hi
       exact .e rfl (e_ieq hE hC hop (.inl ⟨rfl,rfl⟩) hx hy h)
     · cases hi
       exact .e rfl (e_ieq hE hC hop (.inr ⟨rfl,rfl⟩) hx hy h)
     · cases hi
   · rename_i el x' hu hx hy
     split at hi
     · cases hi
       exact .q rfl (q_pnl hE hop hu (.inl ⟨rfl,rfl⟩) hx hy h)
     · cases hi
       exact .q rfl (q_pnl hE hop hu (.inr ⟨rfl,rfl⟩) hx hy h)
     · cases hi
   · rename_i ke ve x' hu hx hy
     split at hi
     · cases hi
       exact .q rfl (q_mnl hE hop hu (.inl ⟨rfl,rfl⟩) hx hy h)
     · cases hi
       exact .q rfl (q_mnl hE hop hu (.inr ⟨rfl,rfl⟩) hx hy h)
     · cases hi
   · rename_i d x' y' hd hu hx hy
     split at hi
     · cases hi; exact .q rfl (q_bik hE hop hx hy (.inl (by omega)) h)
     · cases hi; exact .q rfl (q_bik hE hop hx hy (.inl (by omega)) h)
     · cases hi; exact .q rfl (q_bik hE hop hx hy (.inr (.inl rfl)) h)
     · cases hi; exact .q rfl (q_bik hE hop hx hy (.inr (.inr rfl)) h)
     · cases hi; exact .q rfl (q_bin hE hop hx hy h)
   · cases hi
 case h_10 op t x hop => obtain ⟨x',hx,rfl⟩ := map_some hi; exact .q rfl (q_un hE hop hx h)
 case h_11 src dst x hop =>
   split at hi
   · rename_i k0 k y hs hd hx
     cases hi
     exact .q rfl (q_cvi hE hop hs hd hx h)
   · rename_i e y hs hd hx
     split at hi
     · rename_i he
       cases hi
       exact .e rfl (e_s2b hE hC hop hs hd he hx h)
     · cases hi
   · rename_i e y hs hd hx
     split at hi
     · rename_i he
       cases hi
       exact .s _ _ _ _ _ rfl hop hs hd he hx
     · cases hi
   · rename_i y hs hd hx
     cases hi
     exact .q rfl (q_str hE hop hs hd hx h)
   · cases hi
 case h_12 t x ix hop =>
   split at hi
   · rename_i e y z hu hx hix
     obtain ⟨wd,hs,rfl⟩ := map_some hi
     exact .q rfl (q_ia hE hop hu hs hx hix h)
   · rename_i n e y z hu hx hix
     obtain ⟨wd,hs,rfl⟩ := map_some hi
     exact .q rfl (q_iaa hE hop hu hs hx hix h)
   · cases hi
 case h_13 t x ix hop =>
   split at hi
   · rename_i y z hu hx hix
     cases hi
     exact .q rfl (q_si hE hop hu hx hix h)
   · rename_i len e y z hu hx hix
     split at hi
     · rename_i ha hz
       cases hi
       exact .q rfl (q_ixa hE hop hu ha hz hx hix h)
     · cases hi
   · cases hi
 case h_14 t x lo hi' hop =>
   split at hi
   · rename_i e y l r hu hx hl hr
     obtain ⟨wd,hs,rfl⟩ := map_some hi
     cases l with
     | none => exact .e rfl (e_slc hE hC hop hu hs hx hl hr h)
     | some l' => exact .q rfl (q_slq hE hop hu hs hx hl hr h)
   · rename_i y l r hu hx hl hr
     cases hi
     exact .q rfl (q_sls hE hop hu hx hl hr h)
   · rename_i n e y l r hu hx hl hr
     obtain ⟨wd,hs,rfl⟩ := map_some hi
     cases l with
     | none => exact .e rfl (e_sll hE hC hop hu hs hx hl hr h)
     | some l' => exact .q rfl (q_sla hE hop hu hs hx hl hr h)
   · cases hi
 case h_15 t x hop =>
   split at hi
   · cases hi
   · rename_i d y hd hu hx
     cases hi
     exact .q rfl (q_mki hE hop hu (fun ms h => hd ms h) hx h)
   · cases hi
 case h_16 g first caps hop =>
   split at hi
   · rename_i hf
     obtain ⟨xs,hx,rfl⟩ := map_some hi
     exact .q rfl (q_mkf hE hop hf hx h)
   · cases hi
 case h_17 name first caps hop =>
   split at hi
   · rename_i x hf hc
     obtain ⟨x',hx,rfl⟩ := map_some hi
     exact .q rfl (q_mkm hE hop hf hc hx h)
   · cases hi
 case h_18 x ix hop => obtain ⟨x',hx,rfl⟩ := map_some hi; exact .q rfl (q_ext hE hop hx h)
 case h_19 c hop => exact serves_call hE hC hop hi h
 case h_20 t hop =>
   split at hi
   · obtain ⟨z,hz,rfl⟩ := map_some hi; exact .e rfl (e_ala hC hop hz h)
   · obtain ⟨z,hz,rfl⟩ := map_some hi; exact .e rfl (e_alc hC hop hz h)
 case h_21 t x hop => obtain ⟨x',hx,rfl⟩ := map_some hi; exact .e rfl (e_box hE hC hop hx h)
 case h_22 t ps hop =>
   split at hi
   · rename_i fs z hu hz
     split at hi
     · rename_i pl hpl
       obtain ⟨parts,hp,rfl⟩ := map_some hi
       exact .q rfl (q_bld_struct hE hop hu hz hpl hp h)
     · cases hi
   · rename_i len e z hu hz
     split at hi
     · rename_i n hs
       obtain ⟨parts,hp,rfl⟩ := map_some hi
       exact .q rfl (q_bld_array hE hop hu hz hs hp h)
     · cases hi
   · cases hi
 case h_23 t len ps hop =>
   split at hi
   · rename_i e hu
     split at hi
     · rename_i n z hs hz
       split at hi
       · split at hi
         · rename_i hc
           cases hi
           obtain ⟨hl0,hps,_⟩ := hc
           subst hl0
           exact .e rfl (e_bs0 hC hop hps hu hs h)
         · cases hi
       · rename_i hn
         obtain ⟨parts,hp,rfl⟩ := map_some hi
         have h1:n ≠ 0 := fun h => hn (.inl h)
         have h2:z.length = n := Classical.byContradiction fun h => hn (.inr (.inl h))
         have h3:len ≠ 0 := fun h => hn (.inr (.inr (.inl h)))
         have h4:¬ (len * n > 16777216) := fun h => hn (.inr (.inr (.inr h)))
         exact .e rfl (e_bsl hE hC hop hu hs hz h1 h2 h3 hp (by omega) h)
     · cases hi
   · cases hi
 case h_24 t l c hop =>
   split at hi
   · rename_i e x y hu hx hy
     split at hi
     · rename_i wd bt z hs hb hz
       split at hi
       · rename_i hzl
         cases hi
         exact .e rfl (e_mks hE hC hop hu hs hb hz hzl hx hy h)
       · cases hi
     · cases hi
   · cases hi
 case h_25 => cases hi
theorem quiet_of (hE:EnvR ρ s.env a.tmps) (hC:Core w0 cx ρ s.H w) {i:I} (hi:compI P o = some i) (hq:i.quiet = true) (h:evI P w0 i s K) :
   ∃ x v,∃ C:World → Prop,K x s ∧ x.R ρ v ∧ C w ∧ (∀ w',C w' → (execOp a.eval o).run P w' = .ok (.value v) w') ∧
     ∀ ρ' H' w',RH w0 ρ' H' w' → (∃ t,ρ' = ρ ++ t) → (∀ y n c z,ldI i = some (y,n) → y.get s.env = some (.o (.c c)) → c.isV = false → x = .o z → ldv w0 H' c n (fun b => b = z ∧ z.sure = true)) → C w' := by
 cases serves hE hC hi h with
 | q _ h =>
   obtain ⟨x,v,hK,hR,hrun⟩ := h
   exact ⟨x,v,fun _ => True,hK,hR,trivial,fun w' _ => hrun w',fun _ _ _ _ _ _ => trivial⟩
 | l x x' t n hi' hop ha hx =>
   subst hi'
   obtain ⟨y,v,C,hK,hR,hCw,hrun,hback⟩ := q_ld hE hC.rh hop ha hx h
   exact ⟨.o y,v,C,hK,hR,hCw,hrun,fun ρ' H' w' hRH ht hk => hback ρ' H' w' hRH ht fun c hc hv => hk x' (.ld n) c y rfl hc hv rfl⟩
 | s x x' src dst e hi' hop hs hd he hx =>
   subst hi'
   obtain ⟨y,v,C,hK,hR,hCw,hrun,hback⟩ := q_b2s hE hC.rh hop hs hd he hx h
   exact ⟨.o y,v,C,hK,hR,hCw,hrun,fun ρ' H' w' hRH ht hk => hback ρ' H' w' hRH ht fun c hc hv => hk x' .str c y rfl hc hv rfl⟩
 | e hq' _ => rw [hq] at hq'; cases hq'
theorem eok_of (hE:EnvR ρ s.env a.tmps) (hC:Core w0 cx ρ s.H w) {i:I} (hi:compI P o = some i) (h:evI P w0 i s K):EOk P w0 cx o a ρ s K w := by
 cases serves hE hC hi h with
 | q _ h =>
   obtain ⟨x,v,hK,hR,hrun⟩ := h
   exact eok_of_run ⟨x,s,[],v,w,hK,rfl,by rw [List.append_nil]; exact hR,by rw [List.append_nil]; exact hC,hrun w⟩
 | l x x' t n hi' hop ha hx =>
   subst hi'
   obtain ⟨y,v,C,hK,hR,hCw,hrun,hback⟩ := q_ld hE hC.rh hop ha hx h
   exact eok_of_run ⟨.o y,s,[],v,w,hK,rfl,by rw [List.append_nil]; exact hR,by rw [List.append_nil]; exact hC,hrun w hCw⟩
 | s x x' src dst e hi' hop hs hd he hx =>
   subst hi'
   obtain ⟨y,v,C,hK,hR,hCw,hrun,hback⟩ := q_b2s hE hC.rh hop hs hd he hx h
   exact eok_of_run ⟨.o y,s,[],v,w,hK,rfl,by rw [List.append_nil]; exact hR,by rw [List.append_nil]; exact hC,hrun w hCw⟩
 | e _ h => exact h
end
end Go.Vc
end
section
namespace Go.Vc
open Go.RowKit (Below)
section
variable {P:Program} {w0:World} {cx:Cx} {N:Nat}

structure Rel (w0:World) (cx:Cx) (N:Nat) (ρ:Ren) (s:S) (a:Act) (w:World):Prop where
 sz:a.tmps.size = N
 df:a.defers = cx.ds
 env:EnvR ρ s.env a.tmps
 core:Core w0 cx ρ s.H w
def okExit:Exit → Bool
 | .normal => true
 | .exit _ => true
 | .ret => true
 | .goto _ => true
 | _ => false
def QK (w0:World) (cx:Cx) (N:Nat) (K:Exit → S → Prop) (e:Exit) (a:Act) (w:World):Prop := okExit e = true ∧ ∃ s ρ,K e s ∧ Rel w0 cx N ρ s a w
theorem beq_ne {a b:Nat} (h:a ≠ b):Nat.beq a b = false := by
 cases hb:Nat.beq a b with
 | false => rfl
 | true => exact absurd (Nat.eq_of_beq_eq_true hb) h
theorem put_env {ρ:Ren} {e:Env} {tmps:Array Value} {d:Nat} {x:AV} {v:Value} (hE:EnvR ρ e tmps) (hd:d < tmps.size) (hR:x.R ρ v):EnvR ρ ((d,x) :: e) (tmps.setIfInBounds d v) := by
 intro t y hy
 simp only [look] at hy
 by_cases h:d = t
 · subst h
   simp at hy
   subst hy
   exact ⟨v,by simp [hd],hR⟩
 · have hb:Nat.beq d t = false := beq_ne h
   rw [hb,cond_false] at hy
   obtain ⟨u,h1,h2⟩ := hE t y hy
   exact ⟨u,by rw [Array.getElem?_setIfInBounds_ne h]; exact h1,h2⟩
theorem put_spec {ρ:Ren} {s:S} {a:Act} {w:World} {d:Option Nat} {x:AV} {v:Value} {K:S → Prop} (h:put s d x K) (hsz:a.tmps.size = N) (hdf:a.defers = cx.ds) (hE:EnvR ρ s.env a.tmps) (hC:Core w0 cx ρ s.H w) (hd:∀ k,d = some k → k < N) (hR:x.R ρ v) :
   ∃ s',K s' ∧ Rel w0 cx N ρ s' (a.put d v) w ∧ s'.H = s.H ∧ ∀ k,d = some k → look s'.env k = some x := by
 obtain ⟨e,H⟩ := s
 cases d with
 | none => exact ⟨_,h,⟨hsz,hdf,hE,hC⟩,rfl,fun k hk => by cases hk⟩
 | some k => exact ⟨_,h,⟨by simpa [Act.put] using hsz,hdf,put_env hE (by rw [hsz]; exact hd k rfl) hR,hC⟩,rfl,fun k' hk => by cases hk; simp [look]⟩
theorem compG_spec {ops:Array Oper} {o:Oper} {g:G} (h:compG P N ops o = some g) :
   compI P o = some g.i ∧ g.dst = o.dst ∧ (∀ d,o.dst = some d → d < N) ∧ ((o.guard = none ∧ g.gd = none) ∨ ∃ j want t,o.guard = some (j,want) ∧ (ops[j]?).bind (·.dst) = some t ∧ g.gd = some (t,want)) := by
 unfold compG at h
 split at h
 · cases h
 · rename_i i hi
   split at h
   · rename_i hd
     have hdN:∀ d,o.dst = some d → d < N := fun d he => by rw [he] at hd; exact Nat.le_of_ble_eq_true hd
     split at h
     · rename_i hg
       cases h
       exact ⟨hi,rfl,hdN,.inl ⟨hg,rfl⟩⟩
     · rename_i j want hg
       split at h
       · rename_i t ht
         cases h
         exact ⟨hi,rfl,hdN,.inr ⟨j,want,t,hg,ht,rfl⟩⟩
       · cases h
   · cases h
theorem evG_cases {ops:Array Oper} {o:Oper} {g:G} {ρ:Ren} {s:S} {a:Act} {K:S → Prop} (hc:compG P N ops o = some g) (h:evG P w0 g s K) (hE:EnvR ρ s.env a.tmps) :
   (Region.wanted o (yielded ops a.tmps) = true ∧ ∃ e',evI P w0 g.i ⟨e',s.H⟩ (fun x s' => put s' g.dst x K) ∧ EnvR ρ e' a.tmps ∧ (e' = s.env ∨ ∃ t b,e' = (t,.o (.c (.kb b))) :: s.env)) ∨
   (Region.wanted o (yielded ops a.tmps) = false ∧ ∃ e',put ⟨e',s.H⟩ g.dst (.t []) K ∧ EnvR ρ e' a.tmps) := by
 obtain ⟨_,_,_,hg⟩ := compG_spec hc
 unfold evG at h
 rcases hg with ⟨hg,hgd⟩ | ⟨j,want,t,hg,ht,hgd⟩
 · rw [hgd] at h
   exact .inl ⟨by simp [Region.wanted,hg],s.env,h,hE,.inl rfl⟩
 · rw [hgd] at h
   simp only at h
   have hy:∀ v,a.tmps[t]? = some v → yielded ops a.tmps j = (match v with | .bool b => some b | _ => none) := by
     intro v hv
     simp only [yielded,ht,Option.bind_some,hv]
     cases v <;> rfl
   have hw:Region.wanted o (yielded ops a.tmps) = (yielded ops a.tmps j == some want) := by simp [Region.wanted,hg]
   have hkb:∀ b v,a.tmps[t]? = some v → v = .bool b → EnvR ρ ((t,.o (.c (.kb b))) :: s.env) a.tmps := by
     intro b v hv hb k y hk
     simp only [look] at hk
     by_cases htk:t = k
     · subst htk
       simp at hk
       subst hk
       exact ⟨v,hv,hb⟩
     · have hbq:Nat.beq t k = false := beq_ne htk
       rw [hbq,cond_false] at hk
       exact hE k y hk
   split at h
   · rename_i b hlk
     obtain ⟨v,hv,hR⟩ := hE t _ hlk
     have hR:v = .bool b := hR
     rw [hw,hy v hv,hR]
     split at h
     · exact .inl ⟨rfl,s.env,h,hE,.inl rfl⟩
     · exact .inl ⟨rfl,s.env,h,hE,.inl rfl⟩
     · exact .inr ⟨rfl,s.env,h,hE⟩
     · exact .inr ⟨rfl,s.env,h,hE⟩
   · rename_i b hlk
     obtain ⟨v,hv,hR⟩ := hE t _ hlk
     have hR:v = .bool b := hR.1
     rw [hw,hy v hv,hR]
     split at h
     · cases b with
       | true => exact .inl ⟨rfl,_,h.1 rfl,hkb true v hv hR,.inr ⟨_,_,rfl⟩⟩
       | false => exact .inr ⟨rfl,_,h.2 rfl,hkb false v hv hR⟩
     · cases b with
       | true => exact .inr ⟨rfl,_,h.1 rfl,hkb true v hv hR⟩
       | false => exact .inl ⟨rfl,_,h.2 rfl,hkb false v hv hR,.inr ⟨_,_,rfl⟩⟩
   · rename_i hlk
     obtain ⟨v,hv,ys,hR,hA⟩ := hE t _ hlk
     rw [hw,hy v hv,hR]
     exact .inr ⟨rfl,s.env,h,hE⟩
   · exact h.elim
theorem undef_R {ρ:Ren}:(AV.t []).R ρ undef := ⟨#[],rfl,.nil⟩
theorem evGs_sound {ops:Array Oper} {K:Exit → S → Prop}:∀ {l:List Oper} {gs:List G} {s:S} {ρ:Ren} {a:Act} {w:World},compGs P N ops l = some gs → evGs P w0 gs s (K .normal) → Rel w0 cx N ρ s a w → wpList P ops (QK w0 cx N K) l a w
 | [],gs,s,ρ,a,w,hc,h,hR => by
   simp only [compGs,Option.some.injEq] at hc
   subst hc
   exact ⟨rfl,s,ρ,h,hR⟩
 | o :: r,gs,s,ρ,a,w,hc,h,hR => by
   simp only [compGs] at hc
   cases h1:compG P N ops o with
   | none => simp [h1] at hc
   | some g =>
     cases h2:compGs P N ops r with
     | none => simp [h1,h2] at hc
     | some l =>
       simp only [h1,h2,Option.some.injEq] at hc
       subst hc
       rw [evGs_cons] at h
       obtain ⟨hi,hdst,hdN,_⟩ := compG_spec h1
       unfold wpList
       rcases evG_cases h1 h hR.env with ⟨hw,e',h,hE,_⟩ | ⟨hw,e',h,hE⟩
       · rw [if_pos hw]
         refine .inl (eok_of (s := ⟨e',s.H⟩) (cx := cx) hE hR.core hi h _ _ fun x s' t v w' hput he hx hC => ?_)
         have hE2:EnvR (ρ ++ t) s'.env a.tmps := by rw [he]; exact hE.more t
         obtain ⟨s2,hs2,hR2,_⟩ := put_spec hput hR.sz hR.df hE2 hC (fun k hk => hdN k (by rw [← hdst]; exact hk)) hx
         rw [hdst] at hR2
         exact evGs_sound h2 hs2 hR2
       · rw [hw]
         simp only [Bool.false_eq_true,if_false]
         obtain ⟨s2,hs2,hR2,_⟩ := put_spec (v := undef) h hR.sz hR.df hE hR.core (fun k hk => hdN k (by rw [← hdst]; exact hk)) undef_R
         rw [hdst] at hR2
         exact evGs_sound h2 hs2 hR2
def Lcond (w0:World) (H:List Blk) (L:List (Nat × CV × LdK × A1)) (i:Nat):Prop :=
 match L.find? (fun p => Nat.beq p.1 i) with
 | some (_,c,n,a) => ldv w0 H c n fun b => b = a ∧ a.sure = true
 | none => True
theorem ldI_isLd {i:I} {y:X} {m:LdK} (h:ldI i = some (y,m)):i.isLd = true := by
 unfold ldI at h
 split at h
 · rfl
 · rfl
 · cases h
theorem ldI_kb {P:Program} {i:I} {e:Env} {H:List Blk} {K:AV → S → Prop} {y:X} {m:LdK} {b:Bool} (h:ldI i = some (y,m)) (hy:y.get e = some (.o (.c (.kb b)))) (hev:evI P w0 i ⟨e,H⟩ K):False := by
 unfold ldI at h
 split at h
 · cases h
   rename_i n
   simp only [evI,getC,hy,CV.norm] at hev
   cases n <;> exact hev
 · cases h
   simp only [evI,getC,hy,CV.norm] at hev
   obtain ⟨_,l,hs,_⟩ := hev
   exact hs
 · cases h
theorem chkL_spec {H:List Blk} {L:List (Nat × CV × LdK × A1)}:∀ {l:List Nat},chkL w0 H l L → ∀ i ∈ l,Lcond w0 H L i
 | [],_,i,hi => by cases hi
 | j :: r,h,i,hi => by
   simp only [chkL] at h
   rcases List.mem_cons.1 hi with rfl | hi
   · exact h.1
   · exact chkL_spec h.2 i hi
def LinkE (w0:World) (ρ:Ren) (tk:List Nat) (L:List (Nat × CV × LdK × A1)) (E:List (Nat × (World → Prop))):Prop :=
 ∀ p ∈ E,∀ ρ' H' w',RH w0 ρ' H' w' → (∃ t,ρ' = ρ ++ t) → (p.1 ∈ tk → Lcond w0 H' L p.1) → p.2 w'
theorem evD_sound {ops:Array Oper} {K:Exit → S → Prop} (hsel:Region.noSelect ops = true):∀ {n:Nat} {listed:Array Bool} {tk:List Nat} {ds:List DG} {L:List (Nat × CV × LdK × A1)} {E:List (Nat × (World → Prop))} {s:S} {ρ:Ren} {a:Act} {w:World},
   planD P N ops n listed tk = some ds → evD P w0 ds L s (K .normal) → Rel w0 cx N ρ s a w → Closed .any ops listed → (∀ p ∈ E,p.2 w) → (∀ p ∈ E,listed.getD p.1 false = true) → LinkE w0 ρ tk L E →
   wpAnyE P .any ops (QK w0 cx N K) n listed E a w := by
 intro n
 have hQ:∀ (o:Oper) (v:Value) (c:List PanicEntry) (a:Act) (w:World),QK w0 cx N K (.panic c) (a.put o.dst v) w → QK w0 cx N K (.panic c) a w := fun o v c a w h => by cases h.1
 induction n with
 | zero =>
   intro listed tk ds L E s ρ a w hp h hR hcl hE hEl hLk
   simp only [planD] at hp
   split at hp
   · rename_i hr
     cases hp
     exact ⟨hr,rfl,s,ρ,h,hR⟩
   · cases hp
 | succ n ih =>
   intro listed tk ds L E s ρ a w hp h hR hcl hE hEl hLk
   simp only [planD] at hp
   split at hp
   · -- one that is taken first
     rename_i i hfind
     have hmem := List.mem_of_find?_eq_some hfind
     have hqa := List.find?_some hfind
     split at hp
     · rename_i g hg
       obtain ⟨ds',hp',rfl⟩ := map_some hp
       cases ho:ops[i]? with
       | none => simp [ho] at hg
       | some o =>
         have hcg:compG P N ops o = some g := by simpa [ho] using hg
         obtain ⟨hi,hdst,hdN,_⟩ := compG_spec hcg
         simp only [quietAt,hg,Bool.and_eq_true,Bool.or_eq_true,Bool.not_eq_true'] at hqa
         obtain ⟨⟨hq,hld⟩,hfree⟩ := hqa
         rw [evD_quiet] at h
         have hun:listed.getD i true = false := (mem_ready.1 hmem).1
         have hunf:listed.getD i false = false := by
           rcases Nat.lt_or_ge i listed.size with h' | h'
           · simpa [h'] using hun
           · simp [Array.getElem?_eq_none h']
         have hne:∀ p ∈ E,p.1 ≠ i := fun p hp he => by have := hEl p hp; rw [he,hunf] at this; cases this
         have hlt:i < listed.size := by
           rcases Nat.lt_or_ge i listed.size with h' | h'
           · exact h'
           · simp [Array.getElem?_eq_none h'] at hun
         have hlisted:∀ (C:World → Prop),∀ p ∈ (i,C) :: E,(listed.setIfInBounds i true).getD p.1 false = true := by
           intro C p hp
           rcases List.mem_cons.1 hp with rfl | hp
           · simp [hlt]
           · exact getD_set_true (hEl p hp)
         -- what is known of those taken before
         have hkeep:∀ (L':List (Nat × CV × LdK × A1)) (tk':List Nat),(∀ p ∈ E,p.1 ∈ tk → p.1 ∈ tk') → (∀ p ∈ E,∀ H',Lcond w0 H' L' p.1 → Lcond w0 H' L p.1) → LinkE w0 ρ tk' L' E := by
           intro L' tk' h1 h2 p hp ρ' H' w' hRH ht hk
           exact hLk p hp ρ' H' w' hRH ht fun hm => h2 p hp H' (hk (h1 p hp hm))
         have htk:∀ p ∈ E,p.1 ∈ tk → p.1 ∈ (if g.i.isLd = true then i :: tk else tk) := fun p _ hm => by split <;> simp [hm]
         have hLc:∀ (l:Option (CV × LdK × A1)),∀ p ∈ E,∀ H',Lcond w0 H' (match l with | some l => (i,l) :: L | none => L) p.1 → Lcond w0 H' L p.1 := by
           intro l p hp H' hk
           cases l with
           | none => exact hk
           | some l =>
             obtain ⟨c,m,b⟩ := l
             unfold Lcond at hk ⊢
             simp only at hk
             rw [List.find?_cons_of_neg (by simp only; rw [beq_ne (Ne.symm (hne p hp))]; simp)] at hk
             exact hk
         have hkeepE := fun l => hkeep _ _ htk (hLc l)
         have hcons:∀ (C:World → Prop) (l:Option (CV × LdK × A1)),(∀ ρ' H' w',RH w0 ρ' H' w' → (∃ t,ρ' = ρ ++ t) → (i ∈ (if g.i.isLd = true then i :: tk else tk) → Lcond w0 H' (match l with | some l => (i,l) :: L | none => L) i) → C w') →
             LinkE w0 ρ (if g.i.isLd = true then i :: tk else tk) (match l with | some l => (i,l) :: L | none => L) ((i,C) :: E) := by
           intro C l hC p hp
           rcases List.mem_cons.1 hp with rfl | hp
           · exact hC
           · exact hkeepE l p hp
         rcases evG_cases hcg h hR.env with ⟨hw,e',h,hE',he'⟩ | ⟨hw,e',h,hE'⟩
         · obtain ⟨x,v,C,hput,hx,hCw,hrun,hback⟩ := quiet_of (s := ⟨e',s.H⟩) (cx := cx) hE' hR.core hi hq h
           obtain ⟨s2,hs2,hR2,hH2,hlook⟩ := put_spec hput hR.sz hR.df hE' hR.core (fun k hk => hdN k (by rw [← hdst]; exact hk)) hx
           rw [hdst] at hR2
           have hy:YieldsIf P ops C o v a := .inl ⟨hw,hrun⟩
           refine wpAnyE_take ho hsel hcl hfree (by simpa using hmem) (hQ o v) hy hCw hE ?_
           refine ih hp' hs2 hR2 (hcl.set hmem) (fun p hp => ?_) (hlisted C) (hcons C _ fun ρ' H' w' hRH ht hk => hback ρ' H' w' hRH ht fun y m c z hgi hyc hcv hxz => ?_)
           · rcases List.mem_cons.1 hp with rfl | hp
             · exact hCw
             · exact hE p hp
           · -- a load: it was written down
             have hisld:g.i.isLd = true := ldI_isLd hgi
             have hlk := hk (by simp [hisld])
             have hds:g.dst.isSome = true := by rcases hld with h | h <;> first | (rw [hisld] at h; cases h) | exact h
             obtain ⟨d,hd⟩ := Option.isSome_iff_exists.1 hds
             have hyc2:y.get s.env = some (.o (.c c)) := by
               rcases he' with rfl | ⟨t,b,rfl⟩
               · exact hyc
               · cases y with
                 | k u => cases u <;> exact hyc
                 | t q =>
                   simp only [X.get,look] at hyc ⊢
                   by_cases htq:t = q
                   · subst htq
                     simp at hyc
                     subst hyc
                     exact (ldI_kb (e := (t,AV.o (A1.c (CV.kb b))) :: s.env) (b := b) hgi (by simp [X.get,look]) h).elim
                   · rw [beq_ne htq,cond_false] at hyc
                     exact hyc
             have hl2 := hlook d hd
             rw [hxz] at hl2
             have hldof:ldOf g s s2 = some (c,m,z) := by
               unfold ldOf
               rw [hgi,hd]
               simp only [hyc2,hl2]
               cases c <;> first | rfl | cases hcv
             rw [hldof] at hlk
             simp only [Lcond,List.find?_cons,Nat.beq_refl] at hlk
             exact hlk
         · obtain ⟨s2,hs2,hR2,hH2,hlook⟩ := put_spec (v := undef) h hR.sz hR.df hE' hR.core (fun k hk => hdN k (by rw [← hdst]; exact hk)) undef_R
           rw [hdst] at hR2
           have hy:YieldsIf P ops (fun _ => True) o undef a := .inr ⟨hw,rfl⟩
           refine wpAnyE_take ho hsel hcl hfree (by simpa using hmem) (hQ o undef) hy trivial hE ?_
           refine ih hp' hs2 hR2 (hcl.set hmem) (fun p hp => ?_) (hlisted _) (hcons _ _ fun _ _ _ _ _ _ => trivial)
           rcases List.mem_cons.1 hp with rfl | hp
           · trivial
           · exact hE p hp
     · cases hp
   · -- one that writes: no other may come up
     rename_i hfind
     split at hp
     · rename_i hr
       cases hp
       exact wpAnyE_done hr ⟨rfl,s,ρ,h,hR⟩ _
     · rename_i j hr
       split at hp
       · rename_i g hg
         obtain ⟨ds',hp',rfl⟩ := map_some hp
         cases ho:ops[j]? with
         | none => simp [ho] at hg
         | some o =>
           have hcg:compG P N ops o = some g := by simpa [ho] using hg
           obtain ⟨hi,hdst,hdN,_⟩ := compG_spec hcg
           rw [evD_loud] at h
           have hmem:j ∈ Region.ready .any ops listed := by rw [hr]; simp
           have hElj:∀ p ∈ owed .any ops j E,(listed.setIfInBounds j true).getD p.1 false = true := fun p hp => getD_set_true (hEl p (List.mem_filter.1 hp).1)
           have hmtk:∀ p ∈ owed .any ops j E,p.1 ∈ tk → p.1 ∈ tk.filter fun i => !waitsN .any ops ops.size j i := fun p hp hm => List.mem_filter.2 ⟨hm,(List.mem_filter.1 hp).2⟩
           refine wpAnyE_one hr ?_
           unfold wpOp
           rw [ho]
           simp only
           rcases evG_cases hcg h hR.env with ⟨hw,e',h,hE',_⟩ | ⟨hw,e',h,hE'⟩
           · rw [if_pos hw]
             refine .inl (eok_of (s := ⟨e',s.H⟩) (cx := cx) hE' hR.core hi h _ _ fun x s' t v w' hput he hx hC => ?_)
             have hE2:EnvR (ρ ++ t) s'.env a.tmps := by rw [he]; exact hE'.more t
             obtain ⟨s2,⟨hchk,hs2⟩,hR2,hH2,_⟩ := put_spec hput hR.sz hR.df hE2 hC (fun k hk => hdN k (by rw [← hdst]; exact hk)) hx
             rw [hdst] at hR2
             have hall := chkL_spec hchk
             have hEw:∀ p ∈ owed .any ops j E,p.2 w' := fun p hp => hLk p (List.mem_filter.1 hp).1 (ρ ++ t) s2.H w' hR2.core.rh ⟨t,rfl⟩ fun hm => hall _ (hmtk p hp hm)
             refine ⟨hEw,ih hp' hs2 hR2 (hcl.set hmem) hEw hElj fun p hp ρ' H' w'' hRH ht hk => ?_⟩
             obtain ⟨t2,ht2⟩ := ht
             exact hLk p (List.mem_filter.1 hp).1 ρ' H' w'' hRH ⟨t ++ t2,by rw [ht2,List.append_assoc]⟩ fun hm => hk (hmtk p hp hm)
           · rw [hw]
             simp only [Bool.false_eq_true,if_false]
             obtain ⟨s2,⟨hchk,hs2⟩,hR2,hH2,_⟩ := put_spec (v := undef) h hR.sz hR.df hE' hR.core (fun k hk => hdN k (by rw [← hdst]; exact hk)) undef_R
             rw [hdst] at hR2
             have hEw:∀ p ∈ owed .any ops j E,p.2 w := fun p hp => hE p (List.mem_filter.1 hp).1
             refine ⟨hEw,ih hp' hs2 hR2 (hcl.set hmem) hEw hElj fun p hp ρ' H' w'' hRH ht hk => ?_⟩
             exact hLk p (List.mem_filter.1 hp).1 ρ' H' w'' hRH ht fun hm => hk (hmtk p hp hm)
       · cases hp
     · cases hp
theorem evT_quiet (P:Program) (w0:World) (g:G) (n:Nat) (r:DT) (L:List (Nat × CV × LdK × A1)) (s:S) (K:S → Prop) :
 evT P w0 (.q g n r) L s K = evG P w0 g s fun s' => evT P w0 r (match ldOf g s s' with | some l => (n,l) :: L | none => L) s' K := by
 show (evG P w0 g s fun s' => match ldOf g s s' with | some l => evT P w0 r ((n,l) :: L) s' K | none => evT P w0 r L s' K) = _
 congr 1
 funext s'
 cases ldOf g s s' <;> rfl
theorem altsT_spec {f:Nat → Option (G × Nat × List Nat × DT)} {L:List (Nat × CV × LdK × A1)} {s:S} {K:S → Prop}:∀ {js:List Nat} {t:DT},altsT f js = some t → evT P w0 t L s K → ∀ j ∈ js,∃ x,f j = some x ∧ evG P w0 x.1 s fun s' => chkL w0 s'.H x.2.2.1 L ∧ evT P w0 x.2.2.2 L s' K
 | [],_,_,_,j,hj => by cases hj
 | [j],t,ht,h,k,hk => by
   simp only [altsT] at ht
   obtain ⟨x,hx,rfl⟩ := map_some ht
   have:k = j := by simpa using hk
   subst this
   exact ⟨x,hx,h⟩
 | j :: j' :: js,t,ht,h,k,hk => by
   unfold altsT at ht
   cases hf:f j with
   | none => simp [hf] at ht
   | some x =>
     cases ho:altsT f (j' :: js) with
     | none => simp [hf,ho] at ht
     | some o =>
       simp only [hf,ho,Option.some.injEq] at ht
       subst ht
       obtain ⟨h1,h2⟩ := h
       rcases List.mem_cons.1 hk with rfl | hk
       · exact ⟨x,hf,h1⟩
       · exact altsT_spec ho h2 k hk
theorem evT_sound {ops:Array Oper} {K:Exit → S → Prop} (hsel:Region.noSelect ops = true):∀ {n:Nat} {listed:Array Bool} {tk:List Nat} {ds:DT} {L:List (Nat × CV × LdK × A1)} {E:List (Nat × (World → Prop))} {s:S} {ρ:Ren} {a:Act} {w:World},
   planT P N ops n listed tk = some ds → evT P w0 ds L s (K .normal) → Rel w0 cx N ρ s a w → Closed .any ops listed → (∀ p ∈ E,p.2 w) → (∀ p ∈ E,listed.getD p.1 false = true) → LinkE w0 ρ tk L E →
   wpAnyE P .any ops (QK w0 cx N K) n listed E a w := by
 intro n
 have hQ:∀ (o:Oper) (v:Value) (c:List PanicEntry) (a:Act) (w:World),QK w0 cx N K (.panic c) (a.put o.dst v) w → QK w0 cx N K (.panic c) a w := fun o v c a w h => by cases h.1
 induction n with
 | zero =>
   intro listed tk ds L E s ρ a w hp h hR hcl hE hEl hLk
   simp only [planT] at hp
   split at hp
   · rename_i hr
     cases hp
     exact ⟨hr,rfl,s,ρ,h,hR⟩
   · cases hp
 | succ n ih =>
   intro listed tk ds L E s ρ a w hp h hR hcl hE hEl hLk
   simp only [planT] at hp
   split at hp
   · -- one that is taken first
     rename_i i hfind
     have hmem := List.mem_of_find?_eq_some hfind
     have hqa := List.find?_some hfind
     split at hp
     · rename_i g hg
       obtain ⟨ds',hp',rfl⟩ := map_some hp
       cases ho:ops[i]? with
       | none => simp [ho] at hg
       | some o =>
         have hcg:compG P N ops o = some g := by simpa [ho] using hg
         obtain ⟨hi,hdst,hdN,_⟩ := compG_spec hcg
         simp only [quietAt,hg,Bool.and_eq_true,Bool.or_eq_true,Bool.not_eq_true'] at hqa
         obtain ⟨⟨hq,hld⟩,hfree⟩ := hqa
         rw [evT_quiet] at h
         have hun:listed.getD i true = false := (mem_ready.1 hmem).1
         have hunf:listed.getD i false = false := by
           rcases Nat.lt_or_ge i listed.size with h' | h'
           · simpa [h'] using hun
           · simp [Array.getElem?_eq_none h']
         have hne:∀ p ∈ E,p.1 ≠ i := fun p hp he => by have := hEl p hp; rw [he,hunf] at this; cases this
         have hlt:i < listed.size := by
           rcases Nat.lt_or_ge i listed.size with h' | h'
           · exact h'
           · simp [Array.getElem?_eq_none h'] at hun
         have hlisted:∀ (C:World → Prop),∀ p ∈ (i,C) :: E,(listed.setIfInBounds i true).getD p.1 false = true := by
           intro C p hp
           rcases List.mem_cons.1 hp with rfl | hp
           · simp [hlt]
           · exact getD_set_true (hEl p hp)
         -- what is known of those taken before
         have hkeep:∀ (L':List (Nat × CV × LdK × A1)) (tk':List Nat),(∀ p ∈ E,p.1 ∈ tk → p.1 ∈ tk') → (∀ p ∈ E,∀ H',Lcond w0 H' L' p.1 → Lcond w0 H' L p.1) → LinkE w0 ρ tk' L' E := by
           intro L' tk' h1 h2 p hp ρ' H' w' hRH ht hk
           exact hLk p hp ρ' H' w' hRH ht fun hm => h2 p hp H' (hk (h1 p hp hm))
         have htk:∀ p ∈ E,p.1 ∈ tk → p.1 ∈ (if g.i.isLd = true then i :: tk else tk) := fun p _ hm => by split <;> simp [hm]
         have hLc:∀ (l:Option (CV × LdK × A1)),∀ p ∈ E,∀ H',Lcond w0 H' (match l with | some l => (i,l) :: L | none => L) p.1 → Lcond w0 H' L p.1 := by
           intro l p hp H' hk
           cases l with
           | none => exact hk
           | some l =>
             obtain ⟨c,m,b⟩ := l
             unfold Lcond at hk ⊢
             simp only at hk
             rw [List.find?_cons_of_neg (by simp only; rw [beq_ne (Ne.symm (hne p hp))]; simp)] at hk
             exact hk
         have hkeepE := fun l => hkeep _ _ htk (hLc l)
         have hcons:∀ (C:World → Prop) (l:Option (CV × LdK × A1)),(∀ ρ' H' w',RH w0 ρ' H' w' → (∃ t,ρ' = ρ ++ t) → (i ∈ (if g.i.isLd = true then i :: tk else tk) → Lcond w0 H' (match l with | some l => (i,l) :: L | none => L) i) → C w') →
             LinkE w0 ρ (if g.i.isLd = true then i :: tk else tk) (match l with | some l => (i,l) :: L | none => L) ((i,C) :: E) := by
           intro C l hC p hp
           rcases List.mem_cons.1 hp with rfl | hp
           · exact hC
           · exact hkeepE l p hp
         rcases evG_cases hcg h hR.env with ⟨hw,e',h,hE',he'⟩ | ⟨hw,e',h,hE'⟩
         · obtain ⟨x,v,C,hput,hx,hCw,hrun,hback⟩ := quiet_of (s := ⟨e',s.H⟩) (cx := cx) hE' hR.core hi hq h
           obtain ⟨s2,hs2,hR2,hH2,hlook⟩ := put_spec hput hR.sz hR.df hE' hR.core (fun k hk => hdN k (by rw [← hdst]; exact hk)) hx
           rw [hdst] at hR2
           have hy:YieldsIf P ops C o v a := .inl ⟨hw,hrun⟩
           refine wpAnyE_take ho hsel hcl hfree (by simpa using hmem) (hQ o v) hy hCw hE ?_
           refine ih hp' hs2 hR2 (hcl.set hmem) (fun p hp => ?_) (hlisted C) (hcons C _ fun ρ' H' w' hRH ht hk => hback ρ' H' w' hRH ht fun y m c z hgi hyc hcv hxz => ?_)
           · rcases List.mem_cons.1 hp with rfl | hp
             · exact hCw
             · exact hE p hp
           · -- a load: it was written down
             have hisld:g.i.isLd = true := ldI_isLd hgi
             have hlk := hk (by simp [hisld])
             have hds:g.dst.isSome = true := by rcases hld with h | h <;> first | (rw [hisld] at h; cases h) | exact h
             obtain ⟨d,hd⟩ := Option.isSome_iff_exists.1 hds
             have hyc2:y.get s.env = some (.o (.c c)) := by
               rcases he' with rfl | ⟨t,b,rfl⟩
               · exact hyc
               · cases y with
                 | k u => cases u <;> exact hyc
                 | t q =>
                   simp only [X.get,look] at hyc ⊢
                   by_cases htq:t = q
                   · subst htq
                     simp at hyc
                     subst hyc
                     exact (ldI_kb (e := (t,AV.o (A1.c (CV.kb b))) :: s.env) (b := b) hgi (by simp [X.get,look]) h).elim
                   · rw [beq_ne htq,cond_false] at hyc
                     exact hyc
             have hl2 := hlook d hd
             rw [hxz] at hl2
             have hldof:ldOf g s s2 = some (c,m,z) := by
               unfold ldOf
               rw [hgi,hd]
               simp only [hyc2,hl2]
               cases c <;> first | rfl | cases hcv
             rw [hldof] at hlk
             simp only [Lcond,List.find?_cons,Nat.beq_refl] at hlk
             exact hlk
         · obtain ⟨s2,hs2,hR2,hH2,hlook⟩ := put_spec (v := undef) h hR.sz hR.df hE' hR.core (fun k hk => hdN k (by rw [← hdst]; exact hk)) undef_R
           rw [hdst] at hR2
           have hy:YieldsIf P ops (fun _ => True) o undef a := .inr ⟨hw,rfl⟩
           refine wpAnyE_take ho hsel hcl hfree (by simpa using hmem) (hQ o undef) hy trivial hE ?_
           refine ih hp' hs2 hR2 (hcl.set hmem) (fun p hp => ?_) (hlisted _) (hcons _ _ fun _ _ _ _ _ _ => trivial)
           rcases List.mem_cons.1 hp with rfl | hp
           · trivial
           · exact hE p hp
     · cases hp
   · -- those that write
     rename_i hfind
     by_cases hr0:Region.ready .any ops listed = []
     · rw [hr0] at hp
       cases hp
       exact wpAnyE_done hr0 ⟨rfl,s,ρ,h,hR⟩ _
     · refine ⟨fun h0 => absurd h0 hr0,fun j hmem => ?_⟩
       obtain ⟨x,hx,h⟩ := altsT_spec hp h j hmem
       split at hx
       · rename_i g hg
         obtain ⟨ds',hp',rfl⟩ := map_some hx
         simp only at h
         cases ho:ops[j]? with
         | none => simp [ho] at hg
         | some o =>
           have hcg:compG P N ops o = some g := by simpa [ho] using hg
           obtain ⟨hi,hdst,hdN,_⟩ := compG_spec hcg
           have hElj:∀ p ∈ owed .any ops j E,(listed.setIfInBounds j true).getD p.1 false = true := fun p hp => getD_set_true (hEl p (List.mem_filter.1 hp).1)
           have hmtk:∀ p ∈ owed .any ops j E,p.1 ∈ tk → p.1 ∈ tk.filter fun i => !waitsN .any ops ops.size j i := fun p hp hm => List.mem_filter.2 ⟨hm,(List.mem_filter.1 hp).2⟩
           unfold wpOp
           rw [ho]
           simp only
           rcases evG_cases hcg h hR.env with ⟨hw,e',h,hE',_⟩ | ⟨hw,e',h,hE'⟩
           · rw [if_pos hw]
             refine .inl (eok_of (s := ⟨e',s.H⟩) (cx := cx) hE' hR.core hi h _ _ fun x s' t v w' hput he hx hC => ?_)
             have hE2:EnvR (ρ ++ t) s'.env a.tmps := by rw [he]; exact hE'.more t
             obtain ⟨s2,⟨hchk,hs2⟩,hR2,hH2,_⟩ := put_spec hput hR.sz hR.df hE2 hC (fun k hk => hdN k (by rw [← hdst]; exact hk)) hx
             rw [hdst] at hR2
             have hall := chkL_spec hchk
             have hEw:∀ p ∈ owed .any ops j E,p.2 w' := fun p hp => hLk p (List.mem_filter.1 hp).1 (ρ ++ t) s2.H w' hR2.core.rh ⟨t,rfl⟩ fun hm => hall _ (hmtk p hp hm)
             refine ⟨hEw,ih hp' hs2 hR2 (hcl.set hmem) hEw hElj fun p hp ρ' H' w'' hRH ht hk => ?_⟩
             obtain ⟨t2,ht2⟩ := ht
             exact hLk p (List.mem_filter.1 hp).1 ρ' H' w'' hRH ⟨t ++ t2,by rw [ht2,List.append_assoc]⟩ fun hm => hk (hmtk p hp hm)
           · rw [hw]
             simp only [Bool.false_eq_true,if_false]
             obtain ⟨s2,⟨hchk,hs2⟩,hR2,hH2,_⟩ := put_spec (v := undef) h hR.sz hR.df hE' hR.core (fun k hk => hdN k (by rw [← hdst]; exact hk)) undef_R
             rw [hdst] at hR2
             have hEw:∀ p ∈ owed .any ops j E,p.2 w := fun p hp => hE p (List.mem_filter.1 hp).1
             refine ⟨hEw,ih hp' hs2 hR2 (hcl.set hmem) hEw hElj fun p hp ρ' H' w'' hRH ht hk => ?_⟩
             exact hLk p (List.mem_filter.1 hp).1 ρ' H' w'' hRH ht fun hm => hk (hmtk p hp hm)
       · cases hx
end
end Go.Vc
end
section
namespace Go.Vc
open Go.RowKit (Below)
section
variable {P:Program} {w0:World} {cx:Cx} {N:Nat}

theorem embH_spec {σ:List Nat} {H:List Blk}:∀ {H0:List Blk} {is:List Nat},embH σ H H0 is → H0.length = is.length ∧ (∀ i ∈ is,i < H.length) ∧ ∀ (b:Nat) (k:Blk),H0[b]? = some k → k.live = true → ∃ i,is[b]? = some i ∧ H[i]? = some (k.ren σ) ∧ (k.ren σ).live = true
 | [],[],_ => ⟨rfl,by simp,fun b k h => by simp at h⟩
 | [],_ :: _,h => h.elim
 | k :: r,[],h => by cases k <;> exact h.elim
 | k :: r,i :: is,h => by
   cases hk:k.live with
   | false =>
     have hd:k = .dead := by cases k <;> first | rfl | cases hk
     subst hd
     obtain ⟨hi,h⟩ := h
     obtain ⟨h1,h2,h3⟩ := embH_spec h
     refine ⟨by simp [h1],fun j hj => ?_,fun b k' hb hl => ?_⟩
     · rcases List.mem_cons.1 hj with rfl | hj
       · exact hi
       · exact h2 j hj
     · cases b with
       | zero => simp at hb; subst hb; cases hl
       | succ b => simpa using h3 b k' (by simpa using hb) hl
   | true =>
     have h':H[i]? = some (k.ren σ) ∧ (k.ren σ).live = true ∧ embH σ H r is := by cases k <;> first | exact h | cases hk
     obtain ⟨hi,hl0,h⟩ := h'
     obtain ⟨h1,h2,h3⟩ := embH_spec h
     refine ⟨by simp [h1],fun j hj => ?_,fun b k' hb hl => ?_⟩
     · rcases List.mem_cons.1 hj with rfl | hj
       · exact (List.getElem?_eq_some_iff.1 hi).1
       · exact h2 j hj
     · cases b with
       | zero => simp at hb; subst hb; exact ⟨i,rfl,hi,hl0⟩
       | succ b => simpa using h3 b k' (by simpa using hb) hl
theorem nodupB_spec:∀ {l:List Nat},nodupB l = true → l.Nodup
 | [],_ => List.nodup_nil
 | x :: r,h => by
   simp only [nodupB,Bool.and_eq_true,Bool.not_eq_true'] at h
   refine List.nodup_cons.2 ⟨fun hx => ?_,nodupB_spec h.2⟩
   have:r.any (Nat.beq x) = true := List.any_eq_true.2 ⟨x,hx,by simp⟩
   rw [this] at h
   cases h.1
theorem liveIds_mem:∀ {H0:List Blk} {is:List Nat} {b:Nat} {k:Blk} {i:Nat},H0[b]? = some k → k.live = true → is[b]? = some i → i ∈ liveIds H0 is
 | [],_,b,_,_,h,_,_ => by simp at h
 | k0 :: r,[],b,_,_,_,_,h => by simp at h
 | k0 :: r,j :: is,0,k,i,h,hl,hi => by
   simp at h hi
   subst h
   subst hi
   cases k0 <;> first | (cases hl; done) | simp [liveIds]
 | k0 :: r,j :: is,b + 1,k,i,h,hl,hi => by
   have := liveIds_mem (H0 := r) (is := is) (b := b) (k := k) (i := i) (by simpa using h) hl (by simpa using hi)
   cases k0 <;> simp [liveIds,this]
theorem liveIds_inj:∀ {H0:List Blk} {is:List Nat},(liveIds H0 is).Nodup → ∀ {b b':Nat} {k k':Blk} {i:Nat},H0[b]? = some k → H0[b']? = some k' → k.live = true → k'.live = true → is[b]? = some i → is[b']? = some i → b = b'
 | [],_,_,b,b',_,_,_,h,_,_,_,_,_ => by simp at h
 | k0 :: r,[],_,b,b',_,_,_,_,_,_,_,h,_ => by simp at h
 | k0 :: r,j :: is,hn,b,b',k,k',i,h1,h2,l1,l2,i1,i2 => by
   cases b with
   | zero =>
     cases b' with
     | zero => rfl
     | succ b' =>
       exfalso
       simp at h1 i1
       subst h1
       subst i1
       have hm := liveIds_mem (H0 := r) (is := is) (by simpa using h2) l2 (by simpa using i2)
       have hn':(j :: liveIds r is).Nodup := by cases k0 <;> first | (cases l1; done) | exact hn
       exact (List.nodup_cons.1 hn').1 hm
   | succ b =>
     cases b' with
     | zero =>
       exfalso
       simp at h2 i2
       subst h2
       subst i2
       have hm := liveIds_mem (H0 := r) (is := is) (by simpa using h1) l1 (by simpa using i1)
       have hn':(j :: liveIds r is).Nodup := by cases k0 <;> first | (cases l2; done) | exact hn
       exact (List.nodup_cons.1 hn').1 hm
     | succ b' =>
       have hn':(liveIds r is).Nodup := by cases k0 <;> first | exact hn | exact (List.nodup_cons.1 hn).2
       have := liveIds_inj (H0 := r) (is := is) hn' (b := b) (b' := b') (k := k) (k' := k') (i := i) (by simpa using h1) (by simpa using h2) l1 l2 (by simpa using i1) (by simpa using i2)
       omega
theorem EmbH.core {m:Nat} {σ:List Nat} {H0 H:List Blk} {ρ:Ren} {w:World} (h:EmbH m σ H0 H) (hm:cx.ρe.length = m) (hC:Core w0 cx ρ H w):Core w0 cx (ρ.sub σ) H0 w := by
 obtain ⟨hσ,hH,hn⟩ := h
 obtain ⟨h1,h2,h3⟩ := embH_spec hH
 have hlen:(ρ.sub σ).length = H0.length := by rw [h1]; simp [Ren.sub]
 have himg:∀ g,image (ρ.sub σ) H0 g → image ρ H g := by
   rintro g ⟨b,k,hb,hl,hg⟩
   obtain ⟨i,hi,hHi,hl'⟩ := h3 b k hb hl
   have hilt:i < ρ.length := by rw [hC.rh.len]; exact (List.getElem?_eq_some_iff.1 hHi).1
   exact ⟨i,_,hHi,hl',by rw [← Ren.sub_own hilt hi]; exact hg⟩
 refine ⟨⟨hlen,fun b k e hb he => ?_,fun b b' k k' g hb hb' l l' a a' => ?_,fun g hg => hC.rh.lo g (himg g hg),hC.rh.base⟩,hC.fr,fun g hg => hC.own g (himg g hg),?_⟩
 · cases hl:k.live with
   | false => cases k <;> first | trivial | cases hl
   | true =>
     obtain ⟨i,hi,hHi,hl'⟩ := h3 b k hb hl
     rw [Ren.sub_get hi] at he
     cases he
     have hilt:i < ρ.length := by rw [hC.rh.len]; exact (List.getElem?_eq_some_iff.1 hHi).1
     have hok := hC.rh.ok i _ (ρ.getD i (none,0)) hHi (by rw [List.getD_eq_getElem?_getD,List.getElem?_eq_getElem hilt]; rfl)
     exact hok.of_ren hl hl'
 · obtain ⟨i,hi,hHi,hli⟩ := h3 b k hb l
   obtain ⟨i',hi',hHi',hli'⟩ := h3 b' k' hb' l'
   rw [Ren.sub_own (by rw [hC.rh.len]; exact (List.getElem?_eq_some_iff.1 hHi).1) hi] at a
   rw [Ren.sub_own (by rw [hC.rh.len]; exact (List.getElem?_eq_some_iff.1 hHi').1) hi'] at a'
   have := hC.rh.inj i i' _ _ g hHi hHi' hli hli' a a'
   subst this
   exact liveIds_inj (nodupB_spec hn) hb hb' l l' hi hi'
 · obtain ⟨u,hu⟩ := hC.pre
   refine ⟨(ρ.sub σ).drop m,?_⟩
   have htake:(ρ.sub σ).take m = cx.ρe := by
     unfold Ren.sub
     rw [← List.map_take,hσ]
     apply List.ext_getElem?
     intro i
     rw [List.getElem?_map]
     rcases Nat.lt_or_ge i m with hi | hi
     · have hi2:i < cx.ρe.length := by omega
       rw [List.getElem?_range hi]
       simp only [Option.map_some]
       rw [List.getElem?_eq_getElem hi2,hu,List.getD_eq_getElem?_getD,List.getElem?_append_left hi2,List.getElem?_eq_getElem hi2]
       rfl
     · rw [List.getElem?_eq_none (by simpa using hi),List.getElem?_eq_none (by omega)]
       rfl
   rw [← htake,List.take_append_drop]
theorem embE_spec {σ:List Nat} {e:Env}:∀ {e0:Env},embE σ e e0 → ∀ t x,look e0 t = some x → look e t = some (x.ren σ)
 | [],_,t,x,h => by cases h
 | (k,y) :: r,h,t,x,hx => by
   simp only [look] at hx
   by_cases hk:k = t
   · subst hk
     simp at hx
     subst hx
     exact h.1
   · rw [beq_ne hk,cond_false] at hx
     exact embE_spec h.2 t x hx
theorem EmbS.rel {m:Nat} {s0 s:S} {ρ:Ren} {a:Act} {w:World} (h:EmbS m s0 s) (hm:cx.ρe.length = m) (hR:Rel w0 cx N ρ s a w):∃ ρ0,Rel w0 cx N ρ0 s0 a w := by
 obtain ⟨σ,hH,hE⟩ := h
 refine ⟨ρ.sub σ,hR.sz,hR.df,fun t x hx => ?_,hH.core hm hR.core⟩
 obtain ⟨v,h1,h2⟩ := hR.env t _ (embE_spec hE t x hx)
 exact ⟨v,h1,AV.R.of_ren h2⟩
theorem wp_loop_ix {c:Code} {Q:Exit → Act → World → Prop} (I:Nat → Act → World → Prop) (round:∀ n a w,I n a w → c.wp P (Exit.then (fun a' w' => ∃ n',n' < n ∧ I n' a' w') Q) a w) {n:Nat} {a:Act} {w:World} (h0:I n a w):(Code.loop c).wp P Q a w := by
 intro b k cs
 have key:∀ n a w,I n a w → ∃ e a' w',Q e a' w' ∧ Arrives P (lone (b.at a (.code c :: .inLoop c :: k)) cs w) b k cs e a' w' := by
   intro n
   induction n using Nat.strongRecOn with
   | _ n ih =>
     intro a w hI
     obtain ⟨e,a₁,w₁,hq,harr⟩ := round n a w hI b (.inLoop c :: k) cs
     cases e with
     | normal =>
       obtain ⟨n',hlt,hI₁⟩ := hq
       obtain ⟨e₂,a₂,w₂,hq₂,harr₂⟩ := ih n' hlt a₁ w₁ hI₁
       exact ⟨e₂,a₂,w₂,hq₂,.of_steps (Steps.trans harr (.one step_inLoop)) harr₂⟩
     | exit id => exact ⟨_,a₁,w₁,hq,.pass (x := .inLoop c) rfl (fun _ _ => .inl (by simp)) harr⟩
     | goto l => exact ⟨_,a₁,w₁,hq,.pass (x := .inLoop c) rfl (fun _ _ => .inl (by simp)) harr⟩
     | ret => exact ⟨_,a₁,w₁,hq,.pass (x := .inLoop c) rfl (fun _ _ => .inl (by simp)) harr⟩
     | panic ch => exact ⟨_,a₁,w₁,hq,.pass (x := .inLoop c) rfl (fun _ _ => .inl (by simp)) harr⟩
     | outgrown => exact ⟨_,a₁,w₁,hq,.pass (x := .inLoop c) rfl (fun _ _ => .inl (by simp)) harr⟩
 obtain ⟨e,a',w',hq,harr⟩ := key _ a w h0
 exact ⟨e,a',w',hq,.of_steps (.one step_loop) harr⟩
theorem evC_sound:∀ (c:Code) (ic:IC) (_:compC P N c = some ic) (K:Exit → S → Prop) (s:S) (ρ:Ren) (a:Act) (w:World),evC P w0 cx.ρe.length ic s K → Rel w0 cx N ρ s a w → c.wp P (QK w0 cx N K) a w
 | .skip,ic,hc,K,s,ρ,a,w,h,hR => by
   simp only [compC,Option.some.injEq] at hc
   subst hc
   exact wp_skip ⟨rfl,s,ρ,h,hR⟩
 | .region id ops draw,ic,hc,K,s,ρ,a,w,h,hR => by
   simp only [compC,compReg] at hc
   cases draw with
   | false =>
     simp only [Bool.false_eq_true,if_false] at hc
     obtain ⟨gs,hg,rfl⟩ := map_some hc
     exact wp_region_list (evGs_sound hg h hR)
   | true =>
     simp only [if_true] at hc
     split at hc
     · rename_i hm
       simp only [Bool.and_eq_true] at hm
       refine wp_region_E hm.1 ?_
       have hR':Rel w0 cx N ρ s a { w with drawn := w.drawn + 1 } := ⟨hR.sz,hR.df,hR.env,hR.core.same rfl rfl rfl rfl⟩
       split at hc
       rotate_left
       · obtain ⟨ds,hd,rfl⟩ := map_some hc
         exact evT_sound hm.2 hd h hR' (Closed.init _) (by simp) (by simp) (by intro p hp; cases hp)
       rename_i ds hd
       cases hc
       exact evD_sound hm.2 hd h hR' (Closed.init _) (by simp) (by simp) (by intro p hp; cases hp)
     · cases hc
 | .seq x y,ic,hc,K,s,ρ,a,w,h,hR => by
   simp only [compC] at hc
   cases h1:compC P N x with
   | none => simp [h1] at hc
   | some ix =>
     cases h2:compC P N y with
     | none => simp [h1,h2] at hc
     | some iy =>
       simp only [h1,h2,Option.some.injEq] at hc
       have hseq:∀ (K2:Exit → S → Prop),(∀ s ρ a w,K2 .normal s → Rel w0 cx N ρ s a w → y.wp P (QK w0 cx N K) a w) → (∀ e s,e ≠ .normal → K2 e s → K e s) → evC P w0 cx.ρe.length ix s K2 → (Code.seq x y).wp P (QK w0 cx N K) a w := by
         intro K2 hn he hx
         refine wp_seq (wp_mono (evC_sound x ix h1 K2 s ρ a w hx hR) fun e a' w' hq => ?_)
         obtain ⟨hok,s',ρ',hK2,hR'⟩ := hq
         cases e with
         | normal => exact hn s' ρ' a' w' hK2 hR'
         | _ => first | exact ⟨rfl,s',ρ',he _ _ (by simp) hK2,hR'⟩ | cases hok
       have hdirect:evC P w0 cx.ρe.length ix s (evThen (evC P w0 cx.ρe.length iy) K) → (Code.seq x y).wp P (QK w0 cx N K) a w := by
         intro h
         refine hseq _ (fun s' ρ' a' w' h' hR' => evC_sound y iy h2 K s' ρ' a' w' h' hR') (fun e s' hne h' => ?_) h
         cases e <;> first | exact absurd rfl hne | exact h'
       split at hc
       · subst hc
         rcases h with h | ⟨ι,st,h,hall⟩
         · exact hdirect h
         · refine hseq _ (fun s' ρ' a' w' h' hR' => ?_) (fun e s' hne h' => ?_) h
           · obtain ⟨j,hj⟩ := h'
             obtain ⟨ρ0,hR0⟩ := hj.rel rfl hR'
             exact evC_sound y iy h2 K _ ρ0 a' w' (hall j) hR0
           · cases e <;> first | exact absurd rfl hne | exact h'
       · subst hc
         exact hdirect h
 | .cond t x y,ic,hc,K,s,ρ,a,w,h,hR => by
   simp only [compC] at hc
   cases h0:compX t with
   | none => simp [h0] at hc
   | some t' =>
     cases h1:compC P N x with
     | none => simp [h0,h1] at hc
     | some ix =>
       cases h2:compC P N y with
       | none => simp [h0,h1,h2] at hc
       | some iy =>
         simp only [h0,h1,h2,Option.some.injEq] at hc
         subst hc
         obtain ⟨b,hb,ht,hf⟩ := getBr_R hR.env h0 h
         refine wp_cond_split hb (fun hbt => ?_) (fun hbf => ?_)
         · exact evC_sound x ix h1 K s ρ a w (ht hbt) hR
         · exact evC_sound y iy h2 K s ρ a w (hf hbf) hR
 | .block id x,ic,hc,K,s,ρ,a,w,h,hR => by
   simp only [compC] at hc
   obtain ⟨ix,hx,rfl⟩ := map_some hc
   refine wp_block (wp_mono (evC_sound x ix hx _ s ρ a w h hR) fun e a' w' hq => ?_)
   obtain ⟨hok,s',ρ',hK,hR'⟩ := hq
   cases e with
   | exit id' =>
     simp only [Exit.inBlock]
     change (bif Nat.beq id' id then K .normal s' else K (.exit id') s') at hK
     by_cases hid:id' = id
     · subst hid
       rw [if_pos rfl]
       simp only [Nat.beq_refl,cond_true] at hK
       exact ⟨rfl,s',ρ',hK,hR'⟩
     · rw [if_neg hid]
       rw [beq_ne hid,cond_false] at hK
       exact ⟨rfl,s',ρ',hK,hR'⟩
   | _ => first | exact ⟨rfl,s',ρ',hK,hR'⟩ | cases hok
 | .loop x,ic,hc,K,s,ρ,a,w,h,hR => by
   simp only [compC] at hc
   obtain ⟨ix,hx,rfl⟩ := map_some hc
   obtain ⟨ι,st,μ,⟨j0,hj0⟩,hround⟩ := h
   obtain ⟨ρ0,hR0⟩ := hj0.rel rfl hR
   refine wp_loop_ix (fun n a w => ∃ j ρ,μ j = n ∧ Rel w0 cx N ρ (st j) a w) (fun n a w hI => ?_) ⟨j0,ρ0,rfl,hR0⟩
   obtain ⟨j,ρ1,rfl,hR1⟩ := hI
   refine wp_mono (evC_sound x ix hx _ (st j) ρ1 a w (hround j) hR1) fun e a' w' hq => ?_
   obtain ⟨hok,s',ρ',hK,hR'⟩ := hq
   cases e with
   | normal =>
     obtain ⟨j',hj',hlt⟩ := hK
     obtain ⟨ρ2,hR2⟩ := hj'.rel rfl hR'
     exact ⟨μ j',hlt,j',ρ2,rfl,hR2⟩
   | _ => first | exact ⟨rfl,s',ρ',hK,hR'⟩ | cases hok
 | .exit id,ic,hc,K,s,ρ,a,w,h,hR => by
   simp only [compC,Option.some.injEq] at hc
   subst hc
   exact wp_exit ⟨rfl,s,ρ,h,hR⟩
 | .ret,ic,hc,K,s,ρ,a,w,h,hR => by
   simp only [compC,Option.some.injEq] at hc
   subst hc
   exact wp_ret ⟨rfl,s,ρ,h,hR⟩
 | .rangeFunc ..,ic,hc,K,s,ρ,a,w,h,hR => by simp [compC] at hc
 | .scope _,ic,hc,K,s,ρ,a,w,h,hR => by simp [compC] at hc
 | .label _,ic,hc,K,s,ρ,a,w,h,hR => by
   simp only [compC,Option.some.injEq] at hc
   subst hc
   exact wp_label ⟨rfl,s,ρ,h,hR⟩
 | .goto l,ic,hc,K,s,ρ,a,w,h,hR => by
   simp only [compC,Option.some.injEq] at hc
   subst hc
   exact wp_goto ⟨rfl,s,ρ,h,hR⟩
 | .refuse _,ic,hc,K,s,ρ,a,w,h,hR => by simp [compC] at hc
theorem compB_sound (c:Code) (ic:IC) (hc:compB P N c = some ic) (K:Exit → S → Prop) (s:S) (ρ:Ren) (a:Act) (w:World) (h:evC P w0 cx.ρe.length ic s K) (hR:Rel w0 cx N ρ s a w):c.wp P (QK w0 cx N K) a w := by
 cases c with
 | scope c =>
   simp only [compB] at hc
   split at hc
   · rename_i l hl
     split at hc
     · rename_i r hr
       split at hc
       · rename_i x y hx hy
         cases hc
         refine wp_scope_jumps l (fun a w => ∃ s ρ,evC P w0 cx.ρe.length y s (evNog K) ∧ Rel w0 cx N ρ s a w) (fun _ _ => 0) hr (wp_mono (evC_sound c x hx (evJ l (evC P w0 cx.ρe.length y) K) s ρ a w h hR) fun e a' w' hq => ?_) (fun a w hJ => ?_)
         · obtain ⟨hok,s',ρ',hK,hR'⟩ := hq
           cases e with
           | goto l' =>
             change (bif Nat.beq l' l then evC P w0 cx.ρe.length y s' (evNog K) else False) at hK
             by_cases hid:l' = l
             · subst hid
               rw [Nat.beq_refl,cond_true] at hK
               exact ⟨rfl,s',ρ',hK,hR'⟩
             · rw [beq_ne hid,cond_false] at hK
               exact hK.elim
           | _ => exact ⟨hok,s',ρ',hK,hR'⟩
         · obtain ⟨s1,ρ1,h1,hR1⟩ := hJ
           refine wp_mono (evC_sound r y hy (evNog K) s1 ρ1 a w h1 hR1) fun e a' w' hq => ?_
           obtain ⟨hok,s',ρ',hK,hR'⟩ := hq
           cases e with
           | goto l' => exact (show False from hK).elim
           | _ => exact ⟨hok,s',ρ',hK,hR'⟩
       · cases hc
     · cases hc
   · cases hc
 | _ => exact evC_sound _ ic hc K s ρ a w h hR
end
end Go.Vc
end
section
namespace Go.Vc
open Go.RowKit (Below)
section
variable {P:Program} {w0:World}

theorem envF_spec:∀ {args:List A1} {n:Nat} {k:Env → Prop},envF n args k → ∃ e,k e ∧ ∀ t x,look e t = some x → ∃ a,x = .o a ∧ n ≤ t ∧ args[t - n]? = some a
 | [],n,k,h => ⟨[],h,fun t x hx => by cases hx⟩
 | y :: r,n,k,h => by
   obtain ⟨e,hk,he⟩ := envF_spec (args := r) h
   refine ⟨_,hk,fun t x hx => ?_⟩
   simp only [look] at hx
   by_cases hnt:n = t
   · subst hnt
     simp at hx
     exact ⟨y,hx.symm,Nat.le_refl _,by simp⟩
   · rw [beq_ne hnt,cond_false] at hx
     obtain ⟨a,ha,hle,hg⟩ := he t x hx
     refine ⟨a,ha,by omega,?_⟩
     have:t - n = (t - (n + 1)) + 1 := by omega
     rw [this]
     simpa using hg
theorem run_mapM_l {α β:Type} (f:α → Sem β) (w:World):∀ (xs:List α) (ys:List β),All2 (fun x y => (f x).run P w = .ok y w) xs ys → (xs.mapM f).run P w = .ok ys w
 | [],_,h => by cases h; simp
 | x :: r,_,h => by
   cases h with
   | cons h1 h2 => simp [h1,run_mapM_l f w r _ h2]
theorem run_mapM {α β:Type} (f:α → Sem β) (xs:Array α) (w:World) (ys:List β) (h:All2 (fun x y => (f x).run P w = .ok y w) xs.toList ys):(xs.mapM f).run P w = .ok ys.toArray w := by
 rw [Array.mapM_eq_mapM_toList]
 rw [map_eq_pure_bind,Sem.run_bind,run_mapM_l f w _ _ h]
 rfl
def resRun (tmps:Array Value):ResultVar → Sem Value
 | .tmp t => pure (tmps.getD t undef)
 | .cell a t => do loadVar t (← asAddr (tmps.getD a undef))
theorem results_eq (fn:Func) (tmps:Array Value):results fn tmps = (do let vs ← fn.results.mapM (resRun tmps); pure (if h:vs.size = 1 then vs[0] else .tuple vs)) := by
 unfold results
 congr 2
theorem resF_spec {ρ:Ren} {s:S} {a:Act} {w:World} (hE:EnvR ρ s.env a.tmps) (hC:RH w0 ρ s.H w):∀ {l:List ResultVar} {rs:List IR} {k:List A1 → Prop},compRes P l = some rs → resF w0 s rs k →
   ∃ xs vs,k xs ∧ All2 (A1.R ρ) xs vs ∧ All2 (fun r v => (resRun a.tmps r).run P w = .ok v w) l vs
 | [],rs,k,hc,h => by
   simp only [compRes,Option.some.injEq] at hc
   subst hc
   exact ⟨[],[],h,.nil,.nil⟩
 | .tmp t :: r,rs,k,hc,h => by
   simp only [compRes] at hc
   obtain ⟨l,hl,rfl⟩ := map_some hc
   simp only [resF] at h
   obtain ⟨y,h,hy⟩ := get1_R (o := .tmp t) (x := .t t) hE rfl h
   obtain ⟨xs,vs,hk,hA,hB⟩ := resF_spec hE hC hl h
   exact ⟨_,_,hk,.cons hy hA,.cons (by rfl) hB⟩
 | .cell b t :: r,rs,k,hc,h => by
   simp only [compRes] at hc
   cases ha:aggT P t with
   | none => simp [ha] at hc
   | some n =>
     cases hl:compRes P r with
     | none => simp [ha,hl] at hc
     | some l =>
       simp only [ha,hl,Option.some.injEq] at hc
       subst hc
       simp only [resF] at h
       obtain ⟨c,h,hR⟩ := getC_R (o := .tmp b) (x := .t b) hE rfl h
       obtain ⟨ad,y,us,he,h,hAu,hlu,hcell,_,hn1,hn2⟩ := ld1_sound hC h hR
       obtain ⟨xs,vs,hk,hA,hB⟩ := resF_spec hE hC hl h
       have he:a.tmps.getD b undef = .pointer (some ad) := he
       rcases aggT_spec ha with ⟨rfl,hag⟩ | ⟨m,rfl,hsz,hag⟩
       · obtain ⟨z,rfl⟩ := hn1 rfl
         simp only [A1.cells] at hAu
         obtain ⟨u,rfl,hzu⟩:∃ u,us = [u] ∧ z.R ρ u := by cases hAu with | cons hz hr => cases hr; exact ⟨_,rfl,hz⟩
         have h0 := hcell 0 u rfl
         have h1:ad.add 0 = ad := rfl
         rw [h1] at h0
         exact ⟨_,u :: vs,hk,.cons hzu hA,.cons (by simp [resRun,he,asAddr,loadVar,hag,h0]) hB⟩
       · obtain ⟨cs,rfl⟩ := hn2 m rfl
         have hlc := run_loadCells_list (P := P) (w := w) ad us (fun j v hv => hcell j v hv)
         simp only [Option.getD_some] at hlu
         rw [hlu] at hlc
         exact ⟨_,.agg us.toArray :: vs,hk,.cons ⟨us.toArray,rfl,by simpa [A1.cells] using hAu⟩ hA,.cons (by simp [resRun,he,asAddr,loadVar,hag,run_sizeT hsz,hlc]) hB⟩
theorem results_spec {ρ:Ren} {s:S} {a:Act} {w:World} {fn:Func} {rs:List IR} {k:List A1 → Prop} (hE:EnvR ρ s.env a.tmps) (hC:RH w0 ρ s.H w) (hc:compRes P fn.results.toList = some rs) (h:resF w0 s rs k) :
   ∃ xs v,k xs ∧ (results fn a.tmps).run P w = .ok v w ∧ (resV xs).R ρ v := by
 obtain ⟨xs,vs,hk,hA,hB⟩ := resF_spec hE hC hc h
 have hm := run_mapM (P := P) (resRun a.tmps) fn.results w vs hB
 refine ⟨xs,if h:vs.toArray.size = 1 then vs.toArray[0] else .tuple vs.toArray,hk,?_,?_⟩
 · rw [results_eq,Sem.run_bind,hm]
   simp
 · cases hA with
   | nil => exact ⟨#[],rfl,.nil⟩
   | cons h1 h2 =>
     cases h2 with
     | nil => exact h1
     | cons h2 h3 => exact ⟨_,rfl,.cons h1 (.cons h2 h3)⟩
theorem callsA_of_ev {f:FuncId} {F:IFn} {args:List A1} {H:List Blk} {R:AV → List Blk → Prop} (hc:compF P f = some F) (h:evF P w0 F args H R):CallsA P w0 f args H R := by
 unfold compF at hc
 cases hf:P.funcs[f]? with
 | none => simp [hf] at hc
 | some fn =>
   cases hb:fn.body with
   | none => simp [hf,hb] at hc
   | some c =>
     simp only [hf,hb] at hc
     split at hc
     · cases hc
     · rename_i hnm
       cases hcc:compB P fn.ntmps c with
       | none => simp [hcc] at hc
       | some ic =>
         cases hcr:compRes P fn.results.toList with
         | none => simp [hcc,hcr] at hc
         | some rs =>
           simp only [hcc,hcr] at hc
           split at hc
           · rename_i hnt
             cases hc
             obtain ⟨hlen,h⟩ := chk_spec h
             have hlen:args.length = fn.params.size + fn.nfree := Nat.eq_of_beq_eq_true hlen
             obtain ⟨e,h,he⟩ := envF_spec h
             refine ⟨by simp [hf,hb]; simpa using hnm,fun ρ w vs hRH hA => calls_of_wp hf hb ?_⟩
             have hvl:vs.length = args.length := hA.length.symm
             have hm:H.length = ρ.length := hRH.len.symm
             rw [hm] at h
             have hR0:Rel w0 ⟨w,image ρ H,ρ,[]⟩ fn.ntmps ρ ⟨e,H⟩ { tmps := vs.toArray ++ Array.replicate (fn.ntmps - vs.toArray.size) undef,defers := [] } w := by
               refine ⟨?_,rfl,fun t x hx => ?_,⟨hRH,FrameP.refl _ _,fun g hg => .inl hg,⟨[],by simp⟩⟩⟩
               · simp
                 omega
               · obtain ⟨a,rfl,_,ha⟩ := he t x hx
                 obtain ⟨v,hv,hav⟩ := hA.at_ _ _ ha
                 refine ⟨v,?_,hav⟩
                 have hv:vs[t]? = some v := by simpa using hv
                 have htl := (List.getElem?_eq_some_iff.1 hv).1
                 rw [Array.getElem?_append_left (by simpa using htl)]
                 simpa using hv
             refine wp_mono (compB_sound (cx := ⟨w,image ρ H,ρ,[]⟩) c ic hcc _ _ ρ _ w h hR0) fun ex a' w' hq => ?_
             obtain ⟨hok,s',ρ',hK,hR⟩ := hq
             have key:(resF w0 s' rs fun l => Fin ρ.length R (resV l) s'.H) → bodyPost P fn (fun en w' => ∃ r H' ρ' v,R r H' ∧ en = .returned v ∧ AV.R ρ' r v ∧ RH w0 ρ' H' w' ∧ (∃ t,ρ' = ρ ++ t) ∧ FrameP w (image ρ H) w' ∧ ∀ g,image ρ' H' g → image ρ H g ∨ w.heap.size ≤ g) .ret a' w' := by
               intro hres
               obtain ⟨xs,v,hfin,hrun,hxv⟩ := results_spec hR.env hR.core.rh hcr hres
               refine ⟨hR.df,v,hrun,?_⟩
               rcases hfin with hfin | ⟨σ,r0,H0,hemb,hr,hfin⟩
               · exact ⟨_,_,ρ',v,hfin,rfl,hxv,hR.core.rh,hR.core.pre,hR.core.fr,hR.core.own⟩
               · have hcore := EmbH.core (cx := ⟨w,image ρ H,ρ,[]⟩) hemb rfl hR.core
                 rw [hr] at hxv
                 exact ⟨_,_,_,v,hfin,rfl,AV.R.of_ren hxv,hcore.rh,hcore.pre,hcore.fr,hcore.own⟩
             cases ex with
             | normal => exact key hK
             | ret => exact key hK
             | exit id => exact hK.elim
             | goto l => exact hK.elim
             | _ => cases hok
           · cases hc
theorem CallsA.mono {f:FuncId} {args:List A1} {H:List Blk} {R R':AV → List Blk → Prop} (h:CallsA P w0 f args H R) (hr:∀ r H',R r H' → R' r H'):CallsA P w0 f args H R' :=
 ⟨h.cal,fun ρ w vs hRH hA => (h.out ρ w vs hRH hA).mono fun _e _w' ⟨r,H',ρ',v,hR,rest⟩ => ⟨r,H',ρ',v,hr _ _ hR,rest⟩⟩
end
end Go.Vc
end
section
namespace Go.Vc
open Go.RowKit (Below)
section
variable {P:Program} {w0:World}

def putAll:List Nat → List Blk → List Blk → List Blk
 | [],ks,H => H ++ ks
 | i :: is,k :: ks,H => putAll is ks (H.set i k)
 | _ :: _,[],H => H
def more:Nat → Nat → List Nat
 | _,0 => []
 | k,n + 1 => k :: more (k + 1) n
def widen (σ:List Nat) (H H0:List Blk):List Nat := σ ++ more H.length (H0.length - σ.length)
theorem more_length:∀ {n k:Nat},(more k n).length = n
 | 0,_ => rfl
 | n + 1,k => by simp [more,more_length]
theorem more_get:∀ {n k i:Nat},i < n → (more k n)[i]? = some (k + i)
 | n + 1,k,0,_ => rfl
 | n + 1,k,i + 1,h => by
   simp only [more,List.getElem?_cons_succ]
   rw [more_get (by omega)]
   congr 1
   omega
theorem putAll_length:∀ {σ:List Nat} {ks H:List Blk},σ.length ≤ ks.length → (putAll σ ks H).length = H.length + (ks.length - σ.length)
 | [],ks,H,_ => by simp [putAll]
 | i :: is,k :: ks,H,h => by
   simp only [putAll]
   rw [putAll_length (by simpa using h)]
   simp
theorem putAll_out:∀ {σ:List Nat} {ks H:List Blk} {b:Nat},σ.length ≤ ks.length → b ∉ σ → b < H.length → (putAll σ ks H)[b]? = H[b]?
 | [],ks,H,b,_,_,hb => by simp [putAll,List.getElem?_append_left hb]
 | i :: is,k :: ks,H,b,h,hn,hb => by
   simp only [putAll]
   rw [putAll_out (by simpa using h) (fun hm => hn (by simp [hm])) (by simpa using hb)]
   rw [List.getElem?_set_ne (fun he => hn (by simp [he]))]
theorem putAll_in:∀ {σ:List Nat} {ks H:List Blk} {b j:Nat},σ.length ≤ ks.length → σ.Nodup → (∀ i ∈ σ,i < H.length) → σ[j]? = some b → (putAll σ ks H)[b]? = ks[j]?
 | [],ks,H,b,j,_,_,_,hj => by simp at hj
 | i :: is,k :: ks,H,b,j,h,hn,hlt,hj => by
   simp only [putAll]
   obtain ⟨hn1,hn2⟩ := List.nodup_cons.1 hn
   cases j with
   | zero =>
     simp at hj
     subst hj
     have hi := hlt i (by simp)
     rw [putAll_out (by simpa using h) hn1 (by simpa using hi)]
     simp [hi]
   | succ j =>
     rw [putAll_in (by simpa using h) hn2 (fun i' hi' => by simpa using hlt i' (by simp [hi'])) (by simpa using hj)]
     simp
theorem putAll_new:∀ {σ:List Nat} {ks H:List Blk} {j:Nat},σ.length ≤ ks.length → (putAll σ ks H)[H.length + j]? = ks[σ.length + j]?
 | [],ks,H,j,_ => by
   simp only [putAll,List.length_nil,Nat.zero_add]
   rw [List.getElem?_append_right (by omega),Nat.add_sub_cancel_left]
 | i :: is,k :: ks,H,j,h => by
   simp only [putAll]
   have := putAll_new (σ := is) (ks := ks) (H := H.set i k) (j := j) (by simpa using h)
   simp only [List.length_set] at this
   rw [this]
   have:(i :: is).length + j = (is.length + j) + 1 := by simp; omega
   rw [this]
   simp
theorem liveIds_sub:∀ {H0:List Blk} {is:List Nat},(liveIds H0 is).Sublist is
 | [],is => by simp [liveIds]
 | k :: r,[] => by cases k <;> simp [liveIds]
 | k :: r,i :: is => by
   have := liveIds_sub (H0 := r) (is := is)
   cases k <;> simp [liveIds,this,List.Sublist.cons]
theorem nodupB_of:∀ {l:List Nat},l.Nodup → nodupB l = true
 | [],_ => rfl
 | x :: r,h => by
   obtain ⟨h1,h2⟩ := List.nodup_cons.1 h
   simp only [nodupB,nodupB_of h2,Bool.and_true,Bool.not_eq_true']
   cases ha:r.any (Nat.beq x) with
   | false => rfl
   | true =>
     obtain ⟨y,hy,hxy⟩ := List.any_eq_true.1 ha
     have := Nat.eq_of_beq_eq_true hxy
     subst this
     exact absurd hy h1
theorem live_of_ren {σ:List Nat} {k:Blk} (h:(k.ren σ).live = true):k.live = true := by cases k <;> first | exact h | rfl
theorem CallsA.lift {f:FuncId} {args0 args:List A1} {H0 H:List Blk} {R0 R:AV → List Blk → Prop} (σ:List Nat) (hσn:nodupB σ = true) (hemb:embH σ H H0 σ) (hargs:args0.map (A1.ren σ) = args) (h:CallsA P w0 f args0 H0 R0)
   (hR:∀ r0 H0',R0 r0 H0' → R (r0.ren (widen σ H H0')) (putAll σ (H0'.map (Blk.ren (widen σ H H0'))) H)):CallsA P w0 f args H R := by
 subst hargs
 have hnd := nodupB_spec hσn
 obtain ⟨hlen0,hσlt,hget0⟩ := embH_spec hemb
 refine ⟨h.cal,fun ρ w vs hRH hA => ?_⟩
 have hE:EmbH 0 σ H0 H := ⟨by simp,hemb,nodupB_of (hnd.sublist liveIds_sub)⟩
 have hC0:Core w0 ⟨w,image ρ H,[],[]⟩ ρ H w := ⟨hRH,FrameP.refl _ _,fun g hg => .inl hg,⟨ρ,rfl⟩⟩
 have hC1 := EmbH.core hE rfl hC0
 refine (h.out (ρ.sub σ) w vs hC1.rh ((All2.of_map_left hA).mono fun _ _ => A1.R.of_ren)).mono fun e w' he => ?_
 obtain ⟨r0,H0',ρ0',v,hR0,rfl,hv,hRH',⟨t,rfl⟩,hfr,himg⟩ := he
 have hsub:∀ i,i ∈ σ → i < ρ.length := fun i hi => by rw [hRH.len]; exact hσlt i hi
 have hlen':H0'.length = σ.length + t.length := by rw [← hRH'.len]; simp [Ren.sub]
 have hext:H0'.length - σ.length = t.length := by omega
 have hρs:(ρ ++ t).sub (widen σ H H0') = ρ.sub σ ++ t := by
   apply List.ext_getElem?
   intro i
   unfold Ren.sub widen
   rw [hext,List.map_append]
   rcases Nat.lt_or_ge i σ.length with hi | hi
   · rw [List.getElem?_append_left (by simpa using hi),List.getElem?_append_left (by simpa using hi),List.getElem?_map,List.getElem?_map]
     rw [List.getElem?_eq_getElem hi]
     simp only [Option.map_some,List.getD_eq_getElem?_getD]
     rw [List.getElem?_append_left (hsub _ (List.getElem_mem hi))]
   · rw [List.getElem?_append_right (by simpa using hi),List.getElem?_append_right (by simpa using hi),List.getElem?_map]
     simp only [List.length_map]
     rcases Nat.lt_or_ge (i - σ.length) t.length with hj | hj
     · rw [more_get hj]
       simp only [Option.map_some,List.getD_eq_getElem?_getD]
       rw [List.getElem?_append_right (by rw [hRH.len]; omega),hRH.len,Nat.add_sub_cancel_left,List.getElem?_eq_getElem hj]
       rfl
     · rw [List.getElem?_eq_none (by rw [more_length]; exact hj),List.getElem?_eq_none hj]
       rfl
 have hwlt:∀ i ∈ widen σ H H0',i < (ρ ++ t).length := by
   intro i hi
   unfold widen at hi
   rw [hext] at hi
   rcases List.mem_append.1 hi with hi | hi
   · have := hsub i hi
     simp
     omega
   · obtain ⟨j,hj,rfl⟩ := List.mem_iff_getElem.1 hi
     have hjt:j < t.length := by rwa [more_length] at hj
     have := more_get (k := H.length) hjt
     rw [List.getElem?_eq_getElem hj] at this
     simp only [Option.some.injEq] at this
     rw [this]
     simp [hRH.len]
     omega
 -- which block lies where
 have hks:σ.length ≤ (H0'.map (Blk.ren (widen σ H H0'))).length := by simp [hlen']
 have hcases:∀ (b:Nat) (k:Blk),(putAll σ (H0'.map (Blk.ren (widen σ H H0'))) H)[b]? = some k →
     (b < H.length ∧ b ∉ σ ∧ H[b]? = some k) ∨ ∃ (j:Nat) (k0:Blk),(widen σ H H0')[j]? = some b ∧ H0'[j]? = some k0 ∧ k = k0.ren (widen σ H H0') := by
   intro b k hb
   rcases Nat.lt_or_ge b H.length with hlt | hge
   · by_cases hm:b ∈ σ
     · obtain ⟨j,hj,hjb⟩ := List.mem_iff_getElem.1 hm
       have hj':σ[j]? = some b := by rw [List.getElem?_eq_getElem hj,hjb]
       rw [putAll_in hks hnd (fun i hi => hσlt i hi) hj',List.getElem?_map] at hb
       obtain ⟨k0,h0,h1⟩ := Option.map_eq_some_iff.1 hb
       exact .inr ⟨j,k0,by unfold widen; rw [List.getElem?_append_left hj]; exact hj',h0,h1.symm⟩
     · rw [putAll_out hks hm hlt] at hb
       exact .inl ⟨hlt,hm,hb⟩
   · obtain ⟨j,rfl⟩:∃ j,b = H.length + j := ⟨b - H.length,by omega⟩
     rw [putAll_new hks,List.getElem?_map] at hb
     obtain ⟨k0,h0,h1⟩ := Option.map_eq_some_iff.1 hb
     have hjt:j < t.length := by
       have := (List.getElem?_eq_some_iff.1 h0).1
       omega
     refine .inr ⟨σ.length + j,k0,?_,h0,h1.symm⟩
     unfold widen
     rw [hext,List.getElem?_append_right (by omega),Nat.add_sub_cancel_left,more_get hjt]
 have hat:∀ j b,(widen σ H H0')[j]? = some b → Ren.own (ρ.sub σ ++ t) j = Ren.own (ρ ++ t) b := fun j b hj => by rw [← hρs]; exact Ren.sub_own (hwlt b (List.mem_of_getElem? hj)) hj
 have hold:∀ b:Nat,b < H.length → Ren.own (ρ ++ t) b = ρ.own b := fun b hb => own_append (by rw [hRH.len]; exact hb)
 have hin:∀ g:Nat,image (ρ.sub σ) H0 g → ∃ i k,i ∈ σ ∧ H[i]? = some k ∧ k.live = true ∧ ρ.own i g := by
   rintro g ⟨b,k,hb,hl,hg⟩
   obtain ⟨i,hi,hHi,hl'⟩ := hget0 b k hb hl
   exact ⟨i,_,List.mem_of_getElem? hi,hHi,hl',by rw [← Ren.sub_own (hsub i (List.mem_of_getElem? hi)) hi]; exact hg⟩
 have hfar:∀ (b:Nat) (k:Blk) (g:Nat),b < H.length → b ∉ σ → H[b]? = some k → k.live = true → ρ.own b g → ¬ image (ρ.sub σ) H0 g ∧ g < w.heap.size := by
   intro b k g hb hn hk hl hg
   refine ⟨fun him => ?_,(hRH.lo g ⟨b,k,hk,hl,hg⟩).2⟩
   obtain ⟨i,k',hi,hk',hl',hg'⟩ := hin g him
   have := hRH.inj b i k k' g hk hk' hl hl' hg hg'
   subst this
   exact hn hi
 have himg':∀ g:Nat,image (ρ ++ t) (putAll σ (H0'.map (Blk.ren (widen σ H H0'))) H) g → image ρ H g ∨ image (ρ.sub σ ++ t) H0' g := by
   rintro g ⟨b,k,hb,hl,hg⟩
   rcases hcases b k hb with ⟨hlt,_,hk⟩ | ⟨j,k0,hj,hk0,rfl⟩
   · rw [hold b hlt] at hg
     exact .inl ⟨b,k,hk,hl,hg⟩
   · exact .inr ⟨j,k0,hk0,live_of_ren hl,by rw [hat j b hj]; exact hg⟩
 have himg2:∀ g:Nat,image (ρ.sub σ) H0 g → image ρ H g := fun g hg => by
   obtain ⟨i,k,_,h1,h2,h3⟩ := hin g hg
   exact ⟨i,k,h1,h2,h3⟩
 refine ⟨_,_,ρ ++ t,v,hR _ _ hR0,rfl,AV.R.ren hwlt (by rw [hρs]; exact hv),⟨?_,fun b k e hb he => ?_,fun b b' k k' g hb hb' l l' a a' => ?_,fun g hg => ?_,hRH'.base⟩,⟨t,rfl⟩,⟨hfr.1,hfr.2.1,hfr.2.2.1,hfr.2.2.2.1,fun i hi hn => hfr.2.2.2.2 i hi fun him => hn (himg2 i him)⟩,fun g hg => ?_⟩
 · rw [putAll_length hks]
   simp [hRH.len,hlen']
 · rcases hcases b k hb with ⟨hlt,hn,hk⟩ | ⟨j,k0,hj,hk0,rfl⟩
   · rw [List.getElem?_append_left (by rw [hRH.len]; exact hlt)] at he
     refine ((hRH.ok b k e hk he).keep fun g hg hl => ?_).more t
     obtain ⟨h1,h2⟩ := hfar b k g hlt hn hk hl (own_of he hg)
     exact hfr.2.2.2.2 g h2 h1
   · refine Blk.ok.ren hwlt ?_
     rw [hρs]
     refine hRH'.ok j k0 e hk0 ?_
     rw [← hρs,Ren.sub_get hj,List.getD_eq_getElem?_getD,he]
     rfl
 · rcases hcases b k hb with ⟨hlt,hn,hk⟩ | ⟨j,k0,hj,hk0,rfl⟩
   · rw [hold b hlt] at a
     obtain ⟨h1,h2⟩ := hfar b k g hlt hn hk l a
     rcases hcases b' k' hb' with ⟨hlt',hn',hk'⟩ | ⟨j',k0',hj',hk0',rfl⟩
     · rw [hold b' hlt'] at a'
       exact hRH.inj b b' k k' g hk hk' l l' a a'
     · rcases himg g ⟨j',k0',hk0',live_of_ren l',by rw [hat j' b' hj']; exact a'⟩ with h | h
       · exact absurd h h1
       · omega
   · rcases hcases b' k' hb' with ⟨hlt',hn',hk'⟩ | ⟨j',k0',hj',hk0',rfl⟩
     · rw [hold b' hlt'] at a'
       obtain ⟨h1,h2⟩ := hfar b' k' g hlt' hn' hk' l' a'
       rcases himg g ⟨j,k0,hk0,live_of_ren l,by rw [hat j b hj]; exact a⟩ with h | h
       · exact absurd h h1
       · omega
     · have := hRH'.inj j j' k0 k0' g hk0 hk0' (live_of_ren l) (live_of_ren l') (by rw [hat j b hj]; exact a) (by rw [hat j' b' hj']; exact a')
       subst this
       rw [hj] at hj'
       exact Option.some.inj hj'
 · rcases himg' g hg with h | h
   · have := hRH.lo g h
     exact ⟨this.1,Nat.lt_of_lt_of_le this.2 hfr.2.2.2.1⟩
   · exact hRH'.lo g h
 · rcases himg' g hg with h | h
   · exact .inl h
   · rcases himg g h with h | h
     · exact .inl (himg2 g h)
     · exact .inr h
end
end Go.Vc
end
section
namespace Go.Vc
open Go.RowKit (Below)
section
variable {P:Program} {w0:World}

def recov2 (P:Program) (fn:Func) (o1 o2:Oper) (c:Nat):Bool :=
 match o1.dst,o1.op,o1.guard,o2.dst,o2.op,o2.guard with
 | some t1,.call ⟨.builtin .recover,_,_⟩,none,some t2,.binOp .neq ty (.tmp t) (.const .nilIface) _,none =>
   Nat.beq t t1 && (Nat.beq c t2 && (Nat.blt t1 fn.ntmps && (Nat.blt t2 fn.ntmps && (match P.underlying ty with | some (.interface _) => true | _ => false))))
 | _,_,_,_,_,_ => false
def recovOk (P:Program) (g:FuncId):Bool :=
 match P.funcs[g]? with
 | none => false
 | some fn => !(fn.name == "runtime.NumGoroutine") && (match fn.results.toList with | [] => true | _ => false) && (match fn.body with
   | some (.seq (.region _ ⟨[o1,o2]⟩ false) (.cond (.tmp c) _ .skip)) => recov2 P fn o1 o2 c
   | _ => false)
theorem equal_nil {ty:TypeId} {m:Array (String × TypeId)} (hm:P.underlying ty = some (.interface m)) (w:World):(Op.equal ty .nilIface .nilIface).run P w = .ok true w := by
 have key:∀ n,(Op.equalIn (n + 1) ty .nilIface .nilIface).run P w = .ok true w := by
   intro n
   unfold Op.equalIn
   rw [Sem.run_bind,run_underlying hm]
   rfl
 exact key 9999
theorem recov_calls {g:FuncId} (h:recovOk P g = true) (args:Array Value) (w:World) :
   CallsD P g args .returning w (fun e u' w' => (∃ v,e = .returned v) ∧ u' = .returning ∧ w' = w) ∧ ∃ fn,P.funcs[g]? = some fn ∧ (fn.name == "runtime.NumGoroutine") = false ∧ fn.body.isNone = false := by
 unfold recovOk at h
 cases hf:P.funcs[g]? with
 | none => simp [hf] at h
 | some fn =>
   simp only [hf,Bool.and_eq_true,Bool.not_eq_true'] at h
   obtain ⟨⟨hn,hres⟩,hbody⟩ := h
   split at hbody
   · rename_i b o1 o2 c y hb
     unfold recov2 at hbody
     split at hbody
     · rename_i t1 ca ct t2 ty t z hd1 ho1 hg1 hd2 ho2 hg2
       simp only [Bool.and_eq_true] at hbody
       obtain ⟨e1,e2,l1,l2,hty⟩ := hbody
       have e1 := Nat.eq_of_beq_eq_true e1
       have e2 := Nat.eq_of_beq_eq_true e2
       subst e1 e2
       have l1:t < fn.ntmps := Nat.le_of_ble_eq_true l1
       have l2:c < fn.ntmps := Nat.le_of_ble_eq_true l2
       refine ⟨callsD_of_wpS hf hb fun c₀ cs hu => ?_,fn,rfl,hn,by rw [hb]; rfl⟩
       have hsz:∀ k,k < fn.ntmps → k < (args ++ Array.replicate (fn.ntmps - args.size) undef).size := fun k hk => by
         simp
         omega
       generalize args ++ Array.replicate (fn.ntmps - args.size) undef = tmps at *
       refine wpS_seq (wpS_region ?_)
       have hr:recoverD (c₀ :: cs) = none := by simp [recoverD,hu]
       have hty':∃ m,P.underlying ty = some (.interface m) := by
         split at hty
         · rename_i m hm
           exact ⟨m,hm⟩
         · cases hty
       obtain ⟨m,hm⟩ := hty'
       have hrun1:∀ a:Act,(execOp a.eval o1).run P w = .ok .recover w := fun a => by
         simp [execOp,ho1,resolve,invoke,builtin]
       have hrun2:∀ a:Act,a.tmps[t]? = some .nilIface → (execOp a.eval o2).run P w = .ok (.value (.bool false)) w := fun a ha => by
         have hev:a.eval (.tmp t) = .nilIface := by simp [Act.eval,ha]
         have hev2:a.eval (.const .nilIface) = .nilIface := rfl
         simp [execOp,ho2,hev,hev2,eqGuard,binOp,equal_nil hm]
       have hl:(List.range (#[o1,o2]:Array Oper).size) = [0,1] := rfl
       show wpOpsS P #[o1,o2] _ (List.range (#[o1,o2]:Array Oper).size) _ _ _
       rw [hl]
       have h1:t < (tmps.setIfInBounds t Value.nilIface).size := by simpa using hsz t l1
       have h2:c < (tmps.setIfInBounds t Value.nilIface).size := by simpa using hsz c l2
       have w1:∀ y,Region.wanted o1 y = true := fun y => by simp [Region.wanted,hg1]
       have w2:∀ y,Region.wanted o2 y = true := fun y => by simp [Region.wanted,hg2]
       have ha1:(tmps.setIfInBounds t Value.nilIface)[t]? = some .nilIface := by
         rw [Array.getElem?_setIfInBounds_self_of_lt (hsz t l1)]
       unfold wpOpsS
       rw [show (#[o1,o2]:Array Oper)[0]? = some o1 from rfl]
       simp only [w1,if_true,hrun1,hr,Act.put,hd1]
       unfold wpOpsS
       rw [show (#[o1,o2]:Array Oper)[1]? = some o2 from rfl]
       simp only [w2,if_true,hrun2 { tmps := tmps.setIfInBounds t Value.nilIface,defers := [] } ha1,Oper.upon_value,Act.put,hd2]
       unfold wpOpsS
       refine wpS_cond (t := false) ?_ ?_
       · simp only [Act.eval]
         rw [Array.getD_eq_getD_getElem?,Array.getElem?_setIfInBounds_self_of_lt h2]
         rfl
       · simp only [Bool.false_eq_true,if_false]
         refine wpS_of_wp (wp_skip ?_)
         have hres0:fn.results = #[] := by
           split at hres
           · rename_i hnil
             exact Array.toList_inj.1 (by rw [hnil])
           · cases hres
         exact ⟨rfl,.returning,by rw [← hu],_,results_none hres0 _ P w,⟨_,rfl⟩,rfl,rfl⟩
     · cases hbody
   · cases hbody
def dfr2 (o1 o2:Oper):Option (Nat × FuncId × Array Operand) :=
 match o1.dst,o1.op,o1.guard,o2.dst,o2.op,o2.guard with
 | some t,.makeFunc (.func g) ⟨[]⟩ caps,none,none,.defer ⟨.value (.tmp t'),⟨[]⟩,_⟩,none => bif Nat.beq t t' then some (t,g,caps) else none
 | _,_,_,_,_,_ => none
def compD (P:Program) (f:FuncId):Option IFn :=
 match P.funcs[f]? with
 | none => none
 | some fn => match fn.body with
   | some (.seq (.region _ ops0 false) (.seq (.region _ ⟨[o1,o2]⟩ false) rest)) =>
     (match dfr2 o1 o2,compGs P fn.ntmps ops0 ops0.toList,compG P fn.ntmps #[o1,o2] o1,compC P fn.ntmps rest,compRes P fn.results.toList with
     | some (_,g,_),some gs,some g1,some ir,some rs =>
       if recovOk P g && !(fn.name == "runtime.NumGoroutine") && Nat.ble (fn.params.size + fn.nfree) fn.ntmps then some ⟨.seq (.reg gs) (.seq (.reg [g1]) ir),fn.params.size + fn.nfree,rs⟩ else none
     | _,_,_,_,_ => none)
   | _ => none
theorem Rel.ds {cx:Cx} {N:Nat} {ρ:Ren} {s:S} {a:Act} {w:World} (h:Rel w0 cx N ρ s a w) (l:List Deferred):Rel w0 ⟨cx.w1,cx.F,cx.ρe,l⟩ N ρ s { a with defers := l } w :=
 ⟨h.sz,rfl,h.env,⟨h.core.rh,h.core.fr,h.core.own,h.core.pre⟩⟩
theorem callsA_of_evD {f:FuncId} {F:IFn} {args:List A1} {H:List Blk} {R:AV → List Blk → Prop} (hc:compD P f = some F) (h:evF P w0 F args H R):CallsA P w0 f args H R := by
 unfold compD at hc
 cases hf:P.funcs[f]? with
 | none => simp [hf] at hc
 | some fn =>
   simp only [hf] at hc
   split at hc
   · rename_i b0 ops0 b1 o1 o2 rest hb
     split at hc
     · rename_i t g caps gs g1 ir rs hd hgs hg1 hir hrs
       split at hc
       · rename_i hok
         simp only [Bool.and_eq_true,Bool.not_eq_true'] at hok
         obtain ⟨⟨hrec,hnm⟩,hnt⟩ := hok
         have hnt := Nat.le_of_ble_eq_true hnt
         cases hc
         obtain ⟨hlen,h⟩ := chk_spec h
         have hlen:args.length = fn.params.size + fn.nfree := Nat.eq_of_beq_eq_true hlen
         obtain ⟨e,h,he⟩ := envF_spec h
         refine ⟨by simp [hf,hb,hnm],fun ρ w vs hRH hA => calls_of_wp_defers hf hb ?_⟩
         have hvl:vs.length = args.length := hA.length.symm
         have hm:H.length = ρ.length := hRH.len.symm
         rw [hm] at h
         have hR0:Rel w0 ⟨w,image ρ H,ρ,[]⟩ fn.ntmps ρ ⟨e,H⟩ { tmps := vs.toArray ++ Array.replicate (fn.ntmps - vs.toArray.size) undef,defers := [] } w := by
           refine ⟨?_,rfl,fun t x hx => ?_,⟨hRH,FrameP.refl _ _,fun g hg => .inl hg,⟨[],by simp⟩⟩⟩
           · simp
             omega
           · obtain ⟨a,rfl,_,ha⟩ := he t x hx
             obtain ⟨v,hv,hav⟩ := hA.at_ _ _ ha
             refine ⟨v,?_,hav⟩
             have hv:vs[t]? = some v := by simpa using hv
             have htl := (List.getElem?_eq_some_iff.1 hv).1
             rw [Array.getElem?_append_left (by simpa using htl)]
             simpa using hv
         -- the results' cells
         have h:evGs P w0 gs ⟨e,H⟩ fun s1 => evG P w0 g1 s1 fun s2 => evC P w0 ρ.length ir s2 (evEnd w0 ρ.length rs R) := h
         refine wp_seq (wp_mono (wp_region_list (evGs_sound (K := fun e s1 => match e with | .normal => evG P w0 g1 s1 fun s2 => evC P w0 ρ.length ir s2 (evEnd w0 ρ.length rs R) | _ => False) hgs h hR0)) fun e1 a1 w1 hq => ?_)
         obtain ⟨_,s1,ρ1,hK1,hR1⟩ := hq
         cases e1 <;> first | exact hK1.elim | skip
         -- the closure,and that it is put off
         have hdef := hd
         unfold dfr2 at hdef
         split at hdef
         · rename_i t1 g' caps' t' ts hd1 ho1 hgd1 hd2 ho2 hgd2
           have htt:t1 = t' := by
             cases hb2:Nat.beq t1 t' with
             | true => exact Nat.eq_of_beq_eq_true hb2
             | false => rw [hb2] at hdef; cases hdef
           subst htt
           simp only [Nat.beq_refl,cond_true,Option.some.injEq,Prod.mk.injEq] at hdef
           obtain ⟨rfl,rfl,rfl⟩ := hdef
           obtain ⟨hi,hdst,hdN,_⟩ := compG_spec hg1
           have hq1:g1.i.quiet = true := by
             simp only [compI,ho1] at hi
             split at hi
             · obtain ⟨xs,_,hgi⟩ := map_some hi
               rw [← hgi]
               rfl
             · cases hi
           rcases evG_cases hg1 hK1 hR1.env with ⟨_,e',h,hE',_⟩ | ⟨hw,_⟩
           · obtain ⟨x,v,C,hput,hx,hCw,hrun,_⟩ := quiet_of (s := ⟨e',s1.H⟩) (cx := ⟨w,image ρ H,ρ,[]⟩) hE' hR1.core hi hq1 h
             obtain ⟨s2,hs2,hR2,_⟩ := put_spec hput hR1.sz hR1.df hE' hR1.core (fun k hk => hdN k (by rw [← hdst]; exact hk)) hx
             rw [hdst,hd1] at hR2
             have hrun1:(execOp a1.eval o1).run P w1 = .ok (.value (.func (.func g') #[] (caps'.map a1.eval))) w1 := by
               simp [execOp,ho1,Instr.makeFunc]
             have hv:v = .func (.func g') #[] (caps'.map a1.eval) := by
               have := hrun w1 hCw
               rw [hrun1] at this
               simpa using this.symm
             have htN:t1 < a1.tmps.size := by rw [hR1.sz]; exact hdN t1 hd1
             refine wp_seq (wp_region_list (P := P) (ops := #[o1,o2]) ?_)
             show wpList P #[o1,o2] _ [o1,o2] a1 w1
             unfold wpList
             rw [if_pos (by simp [Region.wanted,hgd1])]
             refine .inl ?_
             unfold Oper.wp
             rw [hrun1,Oper.upon_value,hd1]
             unfold wpList
             rw [if_pos (by simp [Region.wanted,hgd2])]
             refine .inl ?_
             have hev:(a1.put (some t1) (.func (.func g') #[] (caps'.map a1.eval))).eval (.tmp t1) = .func (.func g') #[] (caps'.map a1.eval) := by
               simp [Act.eval,Act.put,htN]
             have hrun2:(execOp (a1.put (some t1) (.func (.func g') #[] (caps'.map a1.eval))).eval o2).run P w1 = .ok (.defer { target := .fn (.func g') (caps'.map a1.eval),args := #[] }) w1 := by
               simp [execOp,ho2,resolve,hev,Deferred.ofValue]
             unfold Oper.wp
             rw [hrun2,Oper.upon_defer,hd2]
             rw [hv] at hR2
             have hR3 := hR2.ds [{ target := .fn (.func g') (caps'.map a1.eval),args := #[] }]
             have hdf2:(a1.put (some t1) (.func (.func g') #[] (caps'.map a1.eval))).defers = [] := hR2.df
             unfold wpList
             rw [hdf2]
             refine wp_mono (evC_sound (cx := ⟨w,image ρ H,ρ,[{ target := .fn (.func g') (caps'.map a1.eval),args := #[] }]⟩) rest ir hir _ _ ρ1 _ w1 hs2 hR3) fun ex a' w' hq => ?_
             obtain ⟨hok,s',ρ',hK,hR⟩ := hq
             have key:(resF w0 s' rs fun l => Fin ρ.length R (resV l) s'.H) → Leaves P fn a'.tmps (fun en w' => ∃ r H' ρ' v,R r H' ∧ en = .returned v ∧ AV.R ρ' r v ∧ RH w0 ρ' H' w' ∧ (∃ t,ρ' = ρ ++ t) ∧ FrameP w (image ρ H) w' ∧ ∀ g,image ρ' H' g → image ρ H g ∨ w.heap.size ≤ g) a'.defers .returning w' := by
               intro hres
               obtain ⟨xs,v,hfin,hrun,hxv⟩ := results_spec hR.env hR.core.rh hrs hres
               obtain ⟨hcd,fn2,hf2,hn2,hb2⟩ := recov_calls (P := P) hrec (caps'.map a1.eval) w'
               rw [hR.df]
               refine ⟨by simp,.func g',_,g',caps'.map a1.eval,rfl,?_,hcd.mono fun e u' w'' he => ?_⟩
               · have hn3:¬ fn2.name = "runtime.NumGoroutine" := by simpa using hn2
                 have hb3:¬ fn2.body = none := by intro h0; rw [h0] at hb2; cases hb2
                 simp [invoke,callFunc,run_program,hf2,hn3,hb3]
               · obtain ⟨⟨v',rfl⟩,rfl,rfl⟩ := he
                 refine ⟨v,hrun,?_⟩
                 rcases hfin with hfin | ⟨σ,r0,H0,hemb,hr,hfin⟩
                 · exact ⟨_,_,ρ',v,hfin,rfl,hxv,hR.core.rh,hR.core.pre,hR.core.fr,hR.core.own⟩
                 · have hcore := EmbH.core hemb rfl hR.core
                   rw [hr] at hxv
                   exact ⟨_,_,_,v,hfin,rfl,AV.R.of_ren hxv,hcore.rh,hcore.pre,hcore.fr,hcore.own⟩
             cases ex with
             | normal => exact key hK
             | ret => exact key hK
             | exit id => exact hK.elim
             | goto l => exact hK.elim
             | _ => cases hok
           · rw [show Region.wanted o1 _ = true by simp [Region.wanted,hgd1]] at hw
             cases hw
         · cases hdef
       · cases hc
     · cases hc
   · cases hc
end
end Go.Vc
end

end
section
namespace Go.Vc
abbrev gm (d s:Nat):G := G.mk (some d) none (I.mov (X.t s))
abbrev gg (d:Nat) (i:I):G := G.mk (some d) none i
abbrev gq (d c:Nat) (b:Bool) (i:I):G := G.mk (some d) (some (c,b)) i
theorem zF {p:Prop} (g:false = true):p := Bool.noConfusion g
theorem zT {p:Prop} (g:true = false):p := Bool.noConfusion g
theorem cL0 {P:Program} {w0:World} {f:FuncId} {args0 args:List A1} {H:List Blk} {R0 R:AV → List Blk → Prop} (h:CallsA P w0 f args0 [] R0)
 (hR:∀ r0 H0',R0 r0 H0' → R (r0.ren (widen [] H H0')) (putAll [] (H0'.map (Blk.ren (widen [] H H0'))) H)) (hargs:args0.map (A1.ren []) = args := by rfl):CallsA P w0 f args H R := CallsA.lift (H0 := []) [] rfl trivial hargs h hR
abbrev sr (l:List G) (x:IC):IC := IC.seq (IC.reg l) x
abbrev xk (k:IntKind) (n:Nat):X := X.k (Value.int k (n:Int))
end Go.Vc
end
section
namespace Go.Proofs.YtokkphocaloelaaGreatDoor
open Go Go.Vc
set_option maxRecDepth 100000
theorem c15_:compF Tryz.prog 15 = some (.mk (sr [gg 0 (.mov (.k (.bool false)))] (sr [gg 7 (.bld [(.int .i64 ((0:Nat):Int)),(.int .u32 ((0:Nat):Int)),(.int .u32 ((0:Nat):Int)),(.int .u32 ((0:Nat):Int)),(.int .i64 ((0:Nat):Int)),(.slice none 0 0)] [(0,(1,(xk .i64 3))),(1,(1,(xk .u32 1000))),(2,(1,(xk .u32 777)))]),gg 8 (.bsl 87 6 1 [(.int .i64 ((0:Nat):Int)),(.int .u32 ((0:Nat):Int)),(.int .u32 ((0:Nat):Int)),(.int .u32 ((0:Nat):Int)),(.int .i64 ((0:Nat):Int)),(.slice none 0 0)] [(0,(6,(.t 7)))]),gg 9 (.call 33 [(.t 8)]),gm 1 9] (sr [gm 11 1,gg 12 (.call 34 [(.t 11)]),gm 10 12,gg 13 (.ext (.t 10) 0),gg 14 (.ext (.t 10) 1),gg 15 (.ext (.t 10) 2),gm 2 13,gm 3 14,gm 4 15] (sr [gm 17 2,gm 18 1,gg 19 (.call 35 [(.t 17),(.t 18)]),gm 16 19,gg 20 (.ext (.t 16) 0),gg 21 (.ext (.t 16) 1),gm 5 20,gm 6 21] (sr [gm 22 4,gg 23 (.bin .eql (.t 22) (xk .i64 0)),gm 24 23,gq 25 24 true (.mov (.t 6)),gq 26 24 true (.bin .eql (.t 25) (xk .i64 0)),gg 27 (.pick (.t 24) (.t 26) (.k (.bool false))),gm 28 27,gq 29 28 true (.mov (.t 5)),gq 30 28 true (.len false (.t 29)),gq 31 28 true (.bin .eql (.t 30) (xk .i64 1)),gg 32 (.pick (.t 28) (.t 31) (.k (.bool false))),gm 33 32,gq 34 33 true (.mov (.t 5)),gq 35 33 true (.ia (.t 34) (xk .i64 0) 6),gq 36 33 true (.ffa (.t 35) 0),gq 37 33 true (.ld (.t 36) none),gq 38 33 true (.bin .eql (.t 37) (xk .i64 777)),gg 39 (.pick (.t 33) (.t 38) (.k (.bool false))),gm 40 39,gq 41 40 true (.mov (.t 5)),gq 42 40 true (.ia (.t 41) (xk .i64 0) 6),gq 43 40 true (.ffa (.t 42) 1),gq 44 40 true (.ld (.t 43) none),gg 45 (.pick (.t 40) (.t 44) (.k (.bool false))),gm 0 45] .ret))))) 0 [(.t 0)]) := by kernel_rfl
theorem c59_:compF Tryz.prog 59 = some (.mk (sr [gm 2 0,gm 3 0,gg 4 (.nil (.t 3)),gg 5 (.ffa (.t 4) 0),gg 6 (.ld (.t 5) none),gg 7 (.slc (.t 6) none (some (xk .i64 0)) 1),gg 8 (.nil (.t 2)),gg 9 (.ffa (.t 8) 0),(G.mk none none (.st (.t 9) (.t 7) 1))] (sr [gm 10 0,gm 11 0,gg 12 (.nil (.t 11)),gg 13 (.ffa (.t 12) 1),gg 14 (.ld (.t 13) none),gg 15 (.slc (.t 14) none (some (xk .i64 0)) 1),gg 16 (.nil (.t 10)),gg 17 (.ffa (.t 16) 1),(G.mk none none (.st (.t 17) (.t 15) 1))] (sr [gm 18 0,gg 19 (.nil (.t 18)),gg 20 (.ffa (.t 19) 2),(G.mk none none (.st (.t 20) (xk .u64 0) 1))] (sr [gm 21 0,gg 22 (.nil (.t 21)),gg 23 (.ffa (.t 22) 3),(G.mk none none (.st (.t 23) (xk .u64 0) 1))] (sr [gm 24 0,gg 25 (.nil (.t 24)),gg 26 (.ffa (.t 25) 4),(G.mk none none (.st (.t 26) (xk .u32 2147483648) 1))] (sr [gm 27 0,gg 28 (.nil (.t 27)),gg 29 (.ffa (.t 28) 5),(G.mk none none (.st (.t 29) (xk .u32 0) 1))] (sr [gm 30 0,gg 31 (.nil (.t 30)),gg 32 (.ffa (.t 31) 6),(G.mk none none (.st (.t 32) (.k (.int .i64 (-1))) 1))] (sr [gm 33 0,gg 34 (.nil (.t 33)),gg 35 (.ffa (.t 34) 7),(G.mk none none (.st (.t 35) (xk .i64 0) 1))] (.reg [gm 36 0,gg 37 (.nil (.t 36)),gg 38 (.ffa (.t 37) 8),(G.mk none none (.st (.t 38) (xk .u64 33) 1))]))))))))) 1 []) := by kernel_rfl
theorem c64_:compF Tryz.prog 64 = some (.mk (.cut (sr [gm 11 1,gg 12 (.bin .leq (.t 11) (xk .u32 1))] (.cond (.t 12) .ret .skip)) (.cut (sr [gm 13 2,gm 14 1,gg 15 (.bin .geq (.t 13) (.t 14))] (.cond (.t 15) (.reg [gm 16 1,gg 17 (.bin .sub (.t 16) (xk .u32 1)),gm 2 17]) .skip)) (sr [gm 18 1,gg 19 (.bin .sub (.t 18) (xk .u32 1)),gm 6 19] (sr [gm 20 6,gg 21 (.call 103 [(.t 20)]),gm 7 21] (.cut (sr [gm 22 7,gg 23 (.bin .leq (.t 22) (xk .i64 8))] (.cond (.t 23) (sr [gm 24 0,gm 25 2,gm 26 2,gg 27 (.bin .add (.t 26) (xk .u32 1)),gm 28 1,gg 29 (.call 60 [(.t 24),(.t 25),(.t 27),(.t 28)])] .ret) .skip)) (sr [gm 30 7,gg 31 (.bin .sub (.t 30) (xk .i64 8)),gm 8 31] (sr [gm 32 6,gm 33 8,gg 34 (.bin .shr (.t 32) (.t 33)),gg 35 (.bin .add (.t 34) (xk .u32 1)),gm 9 35] (sr [gm 36 2,gm 37 8,gg 38 (.bin .shr (.t 36) (.t 37)),gm 10 38] (sr [gm 39 0,gm 40 10,gm 41 10,gg 42 (.bin .add (.t 41) (xk .u32 1)),gm 43 9,gg 44 (.call 60 [(.t 39),(.t 40),(.t 42),(.t 43)])] (.reg [gm 45 0,gm 46 8,gg 47 (.cvi .u64 (.t 46)),gm 48 2,gm 49 8,gg 50 (.cvi .u64 (.t 49)),gg 51 (.call 104 [(.t 50)]),gg 52 (.bin .and (.t 48) (.t 51)),gg 53 (.call 65 [(.t 45),(.t 47),(.t 52)])])))))))))) 3 []) := by kernel_rfl
theorem c72_:compF Tryz.prog 72 = some (.mk (sr [gm 4 0,gm 5 1,gg 6 (.nil (.t 4)),gg 7 (.ffa (.t 6) 0),(G.mk none none (.st (.t 7) (.t 5) 1))] (sr [gm 8 0,gg 9 (.nil (.t 8)),gg 10 (.ffa (.t 9) 1),(G.mk none none (.st (.t 10) (xk .u64 0) 1))] (sr [gm 11 0,gg 12 (.nil (.t 11)),gg 13 (.ffa (.t 12) 2),(G.mk none none (.st (.t 13) (xk .u64 0) 1))] (sr [gm 14 0,gg 15 (.nil (.t 14)),gg 16 (.ffa (.t 15) 3),(G.mk none none (.st (.t 16) (xk .u64 9) 1))] (sr [gm 17 0,gg 18 (.nil (.t 17)),gg 19 (.ffa (.t 18) 4),(G.mk none none (.st (.t 19) (xk .u32 128) 1))] (sr [gm 20 0,gm 21 0,gg 22 (.call 110 [(.t 21),(xk .i64 7)]),gg 23 (.bin .sub (xk .u32 127) (.t 22)),gg 24 (.nil (.t 20)),gg 25 (.ffa (.t 24) 5),(G.mk none none (.st (.t 25) (.t 23) 1))] (.reg [gm 26 0,gg 27 (.call 111 [(.t 26)])]))))))) 2 []) := by kernel_rfl
theorem c70_:compF Tryz.prog 70 = some (.mk (sr [gg 2 (.mov (.k (.slice none 0 0)))] (sr [gm 9 0,gg 10 (.call 106 [(.t 9)]),gm 3 10] (.cut (sr [gm 11 0,gg 12 (.nil (.t 11)),gg 13 (.ffa (.t 12) 6),gg 14 (.ld (.t 13) none),gg 15 (.bin .geq (.t 14) (xk .i64 0)),gm 16 15,gq 17 16 false (.mov (.t 0)),gq 18 16 false (.nil (.t 17)),gq 19 16 false (.ffa (.t 18) 7),gq 20 16 false (.ld (.t 19) none),gq 21 16 false (.bin .gtr (.t 20) (xk .i64 0)),gg 22 (.pick (.t 16) (.k (.bool true)) (.t 21))] (.cond (.t 22) (.reg [gm 23 0,gg 24 (.call 107 [(.t 23),(xk .i64 0)])]) .skip)) (sr [gg 4 (.mov (xk .u64 0))] (.cut (sr [gm 25 3,gg 26 (.bin .lss (.t 25) (xk .i64 0))] (.cond (.t 26) (.reg [gm 27 3,gg 28 (.un .neg (.t 27)),gg 29 (.cvi .u64 (.t 28)),gm 4 29]) .skip)) (.seq (.drw [(.mk (gm 30 0) 0 true []),(.mk (gg 31 (.nil (.t 30))) 1 true []),(.mk (gg 32 (.ffa (.t 31) 0)) 2 true []),(.mk (gg 33 (.ld (.t 32) none)) 3 true []),(.mk (gg 34 (.len false (.t 33))) 4 true []),(.mk (gm 35 0) 5 true []),(.mk (gg 36 (.nil (.t 35))) 6 true []),(.mk (gg 37 (.ffa (.t 36) 1)) 7 true []),(.mk (gg 38 (.ld (.t 37) none)) 8 true []),(.mk (gg 39 (.len false (.t 38))) 9 true []),(.mk (gg 40 (.bin .add (.t 34) (.t 39))) 10 true []),(.mk (gm 41 0) 11 true []),(.mk (gm 42 4) 12 true []),(.mk (gg 43 (.call 109 [(.t 41),(.t 42)])) 13 false [8,3]),(.mk (gg 44 (.call 108 [(.t 43)])) 14 false [8,3]),(.mk (gg 45 (.bin .add (.t 40) (.t 44))) 15 true []),(.mk (gg 46 (.mks 5 1 1 [(.int .u8 ((0:Nat):Int))] (.t 45) (.t 45))) 16 false []),(.mk (gm 5 46) 17 true [])]) (sr [gm 47 5,gm 48 0,gg 49 (.nil (.t 48)),gg 50 (.ffa (.t 49) 0),gg 51 (.ld (.t 50) none),gg 52 (.cpy 1 (.t 47) (.t 51))] (.cut (sr [gm 53 0,gg 54 (.nil (.t 53)),gg 55 (.ffa (.t 54) 1),gg 56 (.ld (.t 55) none),gg 57 (.len false (.t 56)),gg 58 (.mov (xk .i64 0))] (.block 0 (.loop (sr [gg 59 (.bin .lss (.t 58) (.t 57))] (.seq (.cond (.t 59) .skip (.exit 0)) (.seq (.block 1 (sr [gm 60 58,gg 61 (.ia (.t 56) (.t 58) 1),gg 62 (.ld (.t 61) none),gm 6 60,gm 7 62] (.reg [gm 63 5,gm 64 5,gg 65 (.len false (.t 64)),gg 66 (.bin .sub (.t 65) (xk .i64 1)),gm 67 6,gg 68 (.bin .sub (.t 66) (.t 67)),gm 69 7,gg 70 (.ia (.t 63) (.t 68) 1),(G.mk none none (.st (.t 70) (.t 69) 1))]))) (.reg [gg 71 (.bin .add (.t 58) (xk .i64 1)),gm 58 71]))))))) (.cut (sr [gm 72 0,gg 73 (.nil (.t 72)),gg 74 (.ffa (.t 73) 3),gg 75 (.ld (.t 74) none),gg 76 (.bin .gtr (.t 75) (xk .u64 0))] (.cond (.t 76) (.seq (.drw [(.mk (gm 77 0) 0 true []),(.mk (gg 78 (.nil (.t 77))) 1 true []),(.mk (gg 79 (.ffa (.t 78) 2)) 2 true []),(.mk (gg 80 (.ld (.t 79) none)) 3 true []),(.mk (gm 81 0) 4 true []),(.mk (gg 82 (.nil (.t 81))) 5 true []),(.mk (gg 83 (.ffa (.t 82) 3)) 6 true []),(.mk (gg 84 (.ld (.t 83) none)) 7 true []),(.mk (gg 85 (.call 104 [(.t 84)])) 8 false [3]),(.mk (gg 86 (.cvi .u64 (.t 85))) 9 true []),(.mk (gg 87 (.bin .and (.t 80) (.t 86))) 10 true []),(.mk (gg 88 (.cvi .u8 (.t 87))) 11 true []),(.mk (gm 8 88) 12 true [])]) (sr [gm 89 0,gm 90 4,gg 91 (.call 109 [(.t 89),(.t 90)])] (.cond (.t 91) (.reg [gm 92 5,gm 93 0,gg 94 (.nil (.t 93)),gg 95 (.ffa (.t 94) 0),gg 96 (.ld (.t 95) none),gg 97 (.len false (.t 96)),gm 98 8,gg 99 (.ia (.t 92) (.t 97) 1),(G.mk none none (.st (.t 99) (.t 98) 1))]) (.reg [gm 100 5,gm 101 0,gg 102 (.nil (.t 101)),gg 103 (.ffa (.t 102) 0),gg 104 (.ld (.t 103) none),gg 105 (.len false (.t 104)),gg 106 (.bin .sub (.t 105) (xk .i64 1)),gg 107 (.ia (.t 100) (.t 106) 1),gg 108 (.ld (.t 107) none),gm 109 8,gg 110 (.bin .or (.t 108) (.t 109)),gg 111 (.ia (.t 100) (.t 106) 1),(G.mk none none (.st (.t 111) (.t 110) 1))])))) .skip)) (sr [gm 112 5,gm 2 112] .ret)))))))))) 1 [(.t 2)]) := by kernel_rfl
theorem c33_:compF Tryz.prog 33 = some (.mk (sr [gg 2 (.mov (.k (.slice none 0 0)))] (sr [gg 3 (.mov (.k (.slice none 0 0)))] (.cut (sr [gm 6 0,gg 7 (.len false (.t 6)),gg 8 (.mov (xk .i64 0))] (.block 0 (.loop (sr [gg 9 (.bin .lss (.t 8) (.t 7))] (.seq (.cond (.t 9) .skip (.exit 0)) (.seq (.block 1 (sr [gg 10 (.ia (.t 6) (.t 8) 6),gg 11 (.ld (.t 10) (some 6)),gg 5 (.alc 87 [(.int .i64 ((0:Nat):Int)),(.int .u32 ((0:Nat):Int)),(.int .u32 ((0:Nat):Int)),(.int .u32 ((0:Nat):Int)),(.int .i64 ((0:Nat):Int)),(.slice none 0 0)]),(G.mk none none (.st (.t 5) (.t 11) 6))] (.reg [gm 12 3,gg 13 (.ld (.t 5) (some 6)),gg 14 (.bsl 131 6 1 [(.int .i64 ((0:Nat):Int)),(.int .u32 ((0:Nat):Int)),(.int .u32 ((0:Nat):Int)),(.int .u32 ((0:Nat):Int)),(.int .i64 ((0:Nat):Int)),(.slice none 0 0)] [(0,(6,(.t 13)))]),gg 15 (.app 131 6 56 (.t 12) (.t 14)),gm 3 15]))) (.reg [gg 16 (.bin .add (.t 8) (xk .i64 1)),gm 8 16]))))))) (sr [gm 17 3,gm 2 17] .ret)))) 1 [(.t 2)]) := by kernel_rfl
theorem c34_:compD Tryz.prog 34 = some (.mk (sr [gg 2 (.alc 9 [(.string (ByteArray.mk #[]))]),gg 3 (.alc 89 [(.slice none 0 0)]),gg 4 (.alc 3 [(.int .i64 ((0:Nat):Int))])] (sr [gg 8 (.mkf 58 [(.t 2),(.t 3),(.t 4)])] (sr [gg 5 (.alc 134 [(.slice none 0 0),(.slice none 0 0),(.int .u64 ((0:Nat):Int)),(.int .u64 ((0:Nat):Int)),(.int .u32 ((0:Nat):Int)),(.int .u32 ((0:Nat):Int)),(.int .i64 ((0:Nat):Int)),(.int .i64 ((0:Nat):Int)),(.int .u64 ((0:Nat):Int))])] (sr [gg 9 (.call 59 [(.t 5)])] (.cut (sr [gm 10 0,gg 11 (.len false (.t 10)),gg 12 (.mov (xk .i64 0))] (.block 0 (.loop (sr [gg 13 (.bin .lss (.t 12) (.t 11))] (.seq (.cond (.t 13) .skip (.exit 0)) (.cut (.block 1 (sr [gg 14 (.ia (.t 10) (.t 12) 6),gg 15 (.ld (.t 14) (some 6)),gg 7 (.alc 131 [(.int .i64 ((0:Nat):Int)),(.int .u32 ((0:Nat):Int)),(.int .u32 ((0:Nat):Int)),(.int .u32 ((0:Nat):Int)),(.int .i64 ((0:Nat):Int)),(.slice none 0 0)]),(G.mk none none (.st (.t 7) (.t 15) 6))] (.cut (sr [gg 16 (.ffa (.t 7) 0),gg 17 (.ld (.t 16) none)] (.block 2 (sr [gg 19 (.bin .eql (.t 17) (xk .i64 0)),gm 18 19] (.cond (.t 18) (.reg [gg 20 (.ffa (.t 7) 1),gg 21 (.ld (.t 20) none),gg 22 (.ffa (.t 7) 2),gg 23 (.ld (.t 22) none),gg 24 (.ffa (.t 7) 3),gg 25 (.ld (.t 24) none),gg 26 (.call 60 [(.t 5),(.t 21),(.t 23),(.t 25)])]) (sr [gg 28 (.bin .eql (.t 17) (xk .i64 1)),gm 27 28] (.cond (.t 27) (.reg [gg 29 (.ffa (.t 7) 1),gg 30 (.ld (.t 29) none),gg 31 (.cvi .u64 (.t 30)),gg 32 (.ffa (.t 7) 2),gg 33 (.ld (.t 32) none),gg 34 (.call 61 [(.t 5),(.t 31),(.t 33)])]) (sr [gg 36 (.bin .eql (.t 17) (xk .i64 2)),gm 35 36] (.cond (.t 35) (.drw [(.mk (gg 37 (.ffa (.t 7) 5)) 0 true []),(.mk (gg 38 (.ld (.t 37) none)) 1 true []),(.mk (gg 40 (.ffa (.t 7) 1)) 3 true []),(.mk (gg 41 (.ld (.t 40) none)) 4 true []),(.mk (gg 39 (.call 63 [(.t 38)])) 2 false [4]),(.mk (gg 42 (.call 62 [(.t 5),(.t 39),(.t 41)])) 5 false [])]) (sr [gg 44 (.bin .eql (.t 17) (xk .i64 3)),gm 43 44] (.cond (.t 43) (.reg [gg 45 (.ffa (.t 7) 1),gg 46 (.ld (.t 45) none),gg 47 (.ffa (.t 7) 2),gg 48 (.ld (.t 47) none),gg 49 (.call 64 [(.t 5),(.t 46),(.t 48)])]) (sr [gg 51 (.bin .eql (.t 17) (xk .i64 4)),gm 50 51] (.cond (.t 50) (.reg [gg 52 (.ffa (.t 7) 1),gg 53 (.ld (.t 52) none),gg 54 (.cvi .u64 (.t 53)),gg 55 (.ffa (.t 7) 2),gg 56 (.ld (.t 55) none),gg 57 (.call 65 [(.t 5),(.t 54),(.t 56)])]) (sr [gg 59 (.bin .eql (.t 17) (xk .i64 5)),gm 58 59] (.cond (.t 58) (.reg [gg 60 (.ffa (.t 7) 1),gg 61 (.ld (.t 60) none),gg 62 (.ffa (.t 7) 2),gg 63 (.ld (.t 62) none),gg 64 (.ffa (.t 7) 4),gg 65 (.ld (.t 64) none),gg 66 (.call 66 [(.t 5),(.t 61),(.t 63),(.t 65)])]) (sr [(G.mk none none (.st (.t 2) (.k (.string (ByteArray.mk #[]))) 1)),(G.mk none none (.st (.t 3) (.k (.slice none 0 0)) 1)),(G.mk none none (.st (.t 4) (xk .i64 3) 1))] .ret))))))))))))))) (.drw [(.mk (gg 67 (.ld (.t 3) none)) 0 true []),(.mk (gg 68 (.call 67 [(.t 5)])) 1 false [0]),(.mk (gg 69 (.call 68 [(.t 5)])) 2 false [0]),(.mk (gg 70 (.cvi .u32 (.t 69))) 3 true []),(.mk (gg 71 (.call 69 [(.t 5)])) 4 false [0]),(.mk (gg 72 (.cvi .u32 (.t 71))) 5 true []),(.mk (gg 73 (.bld [(.int .i64 ((0:Nat):Int)),(.bool false),(.int .u32 ((0:Nat):Int)),(.int .u32 ((0:Nat):Int)),(.int .u32 ((0:Nat):Int)),(.int .i64 ((0:Nat):Int))] [(0,(1,(xk .i64 0))),(1,(1,(.k (.bool true)))),(2,(1,(.t 68))),(3,(1,(.t 70))),(4,(1,(.t 72))),(5,(1,(xk .i64 0)))])) 6 true []),(.mk (gg 74 (.bsl 95 6 1 [(.int .i64 ((0:Nat):Int)),(.bool false),(.int .u32 ((0:Nat):Int)),(.int .u32 ((0:Nat):Int)),(.int .u32 ((0:Nat):Int)),(.int .i64 ((0:Nat):Int))] [(0,(6,(.t 73)))])) 7 false [0]),(.mk (gg 75 (.app 95 6 32 (.t 67) (.t 74))) 8 false []),(.mk (G.mk none none (.st (.t 3) (.t 75) 1)) 9 false [])])))) (.reg [gg 76 (.bin .add (.t 12) (xk .i64 1)),gm 12 76]))))))) (.seq (.drw [(.mk (gg 79 (.ld (.t 3) none)) 2 true []),(.mk (gg 77 (.call 70 [(.t 5)])) 0 false [2]),(.mk (gg 78 (.b2s (.t 77))) 1 true []),(.mk (G.mk none none (.st (.t 2) (.t 78) 1)) 3 false [2]),(.mk (G.mk none none (.st (.t 3) (.t 79) 1)) 4 false []),(.mk (G.mk none none (.st (.t 4) (xk .i64 0) 1)) 5 false [])]) .ret)))))) 1 [(.cell 2 none),(.cell 3 none),(.cell 4 none)]) := by kernel_rfl
theorem c35_:compD Tryz.prog 35 = some (.mk (sr [gg 4 (.alc 89 [(.slice none 0 0)]),gg 5 (.alc 3 [(.int .i64 ((0:Nat):Int))])] (sr [gg 13 (.mkf 71 [(.t 4),(.t 5)])] (sr [gg 6 (.alc 146 [(.slice none 0 0),(.int .u64 ((0:Nat):Int)),(.int .u64 ((0:Nat):Int)),(.int .u64 ((0:Nat):Int)),(.int .u32 ((0:Nat):Int)),(.int .u32 ((0:Nat):Int))])] (sr [gm 14 0,gg 15 (.s2b 5 (.t 14)),gg 16 (.call 72 [(.t 6),(.t 15)])] (.cut (sr [gm 17 1,gg 18 (.len false (.t 17)),gg 19 (.mov (xk .i64 0))] (.block 0 (.loop (sr [gg 20 (.bin .lss (.t 19) (.t 18))] (.seq (.cond (.t 20) .skip (.exit 0)) (.cut (.block 1 (sr [gg 21 (.ia (.t 17) (.t 19) 6),gg 22 (.ld (.t 21) (some 6)),gg 8 (.alc 131 [(.int .i64 ((0:Nat):Int)),(.int .u32 ((0:Nat):Int)),(.int .u32 ((0:Nat):Int)),(.int .u32 ((0:Nat):Int)),(.int .i64 ((0:Nat):Int)),(.slice none 0 0)]),(G.mk none none (.st (.t 8) (.t 22) 6))] (sr [gg 23 (.bld [(.int .i64 ((0:Nat):Int)),(.bool false),(.int .u32 ((0:Nat):Int)),(.int .u32 ((0:Nat):Int)),(.int .u32 ((0:Nat):Int)),(.int .i64 ((0:Nat):Int))] [(1,(1,(.k (.bool true))))]),gg 9 (.alc 95 [(.int .i64 ((0:Nat):Int)),(.bool false),(.int .u32 ((0:Nat):Int)),(.int .u32 ((0:Nat):Int)),(.int .u32 ((0:Nat):Int)),(.int .i64 ((0:Nat):Int))]),(G.mk none none (.st (.t 9) (.t 23) 6))] (.cut (sr [gg 24 (.ffa (.t 8) 0),gg 25 (.ld (.t 24) none)] (.block 2 (sr [gg 27 (.bin .eql (.t 25) (xk .i64 0)),gm 26 27] (.cond (.t 26) (sr [gg 28 (.ffa (.t 8) 3),gg 29 (.ld (.t 28) none),gg 30 (.call 73 [(.t 6),(.t 29)]),gm 10 30] (.cut (sr [gg 31 (.ffa (.t 8) 1),gg 32 (.ld (.t 31) none),gm 33 10,gg 34 (.bin .leq (.t 32) (.t 33)),gm 35 34,gq 36 35 true (.mov (.t 10)),gq 37 35 true (.ffa (.t 8) 2),gq 38 35 true (.ld (.t 37) none),gq 39 35 true (.bin .lss (.t 36) (.t 38)),gg 40 (.pick (.t 35) (.t 39) (.k (.bool false)))] (.cond (.t 40) (.reg [gg 41 (.ffa (.t 8) 1),gg 42 (.ld (.t 41) none),gg 43 (.ffa (.t 8) 2),gg 44 (.ld (.t 43) none),gg 45 (.ffa (.t 8) 3),gg 46 (.ld (.t 45) none),gg 47 (.call 74 [(.t 6),(.t 42),(.t 44),(.t 46)])]) (.reg [gm 48 10,gm 49 10,gg 50 (.bin .add (.t 49) (xk .u32 1)),gg 51 (.ffa (.t 8) 3),gg 52 (.ld (.t 51) none),gg 53 (.call 74 [(.t 6),(.t 48),(.t 50),(.t 52)])]))) (.reg [gm 54 10,gg 55 (.cvi .i64 (.t 54)),gg 56 (.ffa (.t 9) 0),(G.mk none none (.st (.t 56) (.t 55) 1))]))) (sr [gg 58 (.bin .eql (.t 25) (xk .i64 1)),gm 57 58] (.cond (.t 57) (.reg [gg 59 (.ffa (.t 8) 1),gg 60 (.ld (.t 59) none),gg 61 (.cvi .u64 (.t 60)),gg 62 (.call 75 [(.t 6),(.t 61)]),gg 63 (.cvi .i64 (.t 62)),gg 64 (.ffa (.t 9) 0),(G.mk none none (.st (.t 64) (.t 63) 1))]) (sr [gg 66 (.bin .eql (.t 25) (xk .i64 2)),gm 65 66] (.cond (.t 65) (.reg [gg 67 (.ffa (.t 8) 5),gg 68 (.ld (.t 67) none),gg 69 (.call 63 [(.t 68)]),gg 70 (.call 76 [(.t 6),(.t 69)]),gg 71 (.cvi .i64 (.t 70)),gg 72 (.ffa (.t 9) 0),(G.mk none none (.st (.t 72) (.t 71) 1))]) (sr [gg 74 (.bin .eql (.t 25) (xk .i64 3)),gm 73 74] (.cond (.t 73) (sr [gg 76 (.ffa (.t 8) 1),gg 77 (.ld (.t 76) none),gg 78 (.call 77 [(.t 6),(.t 77)]),gm 75 78,gg 79 (.ext (.t 75) 0),gg 80 (.ext (.t 75) 1),gm 11 79,gm 12 80] (.reg [gm 81 11,gg 82 (.cvi .i64 (.t 81)),gm 83 12,gg 84 (.ffa (.t 9) 0),(G.mk none none (.st (.t 84) (.t 82) 1)),gg 85 (.ffa (.t 9) 1),(G.mk none none (.st (.t 85) (.t 83) 1))])) (sr [gg 87 (.bin .eql (.t 25) (xk .i64 4)),gm 86 87] (.cond (.t 86) (.reg [gg 88 (.ffa (.t 8) 1),gg 89 (.ld (.t 88) none),gg 90 (.cvi .u64 (.t 89)),gg 91 (.call 78 [(.t 6),(.t 90)]),gg 92 (.cvi .i64 (.t 91)),gg 93 (.ffa (.t 9) 0),(G.mk none none (.st (.t 93) (.t 92) 1))]) (sr [gg 95 (.bin .eql (.t 25) (xk .i64 5)),gm 94 95] (.cond (.t 94) (.reg [gg 96 (.ffa (.t 8) 1),gg 97 (.ld (.t 96) none),gg 98 (.ffa (.t 8) 2),gg 99 (.ld (.t 98) none),gg 100 (.call 79 [(.t 6),(.t 97),(.t 99)]),gg 101 (.ffa (.t 9) 0),(G.mk none none (.st (.t 101) (.t 100) 1))]) (sr [gg 103 (.bin .eql (.t 25) (xk .i64 6)),gm 102 103] (.cond (.t 102) (.reg [gg 104 (.ffa (.t 8) 1),gg 105 (.ld (.t 104) none),gg 106 (.cvi .i64 (.t 105)),gg 107 (.call 80 [(.t 6),(.t 106)])]) (sr [(G.mk none none (.st (.t 4) (.k (.slice none 0 0)) 1)),(G.mk none none (.st (.t 5) (xk .i64 3) 1))] .ret))))))))))))))))) (sr [gg 108 (.call 81 [(.t 6)]),gg 109 (.call 82 [(.t 6)]),gg 110 (.cvi .u32 (.t 109)),gg 111 (.call 83 [(.t 6)]),gg 112 (.cvi .u32 (.t 111)),gg 113 (.call 84 [(.t 6)]),gg 114 (.ffa (.t 9) 2),(G.mk none none (.st (.t 114) (.t 108) 1)),gg 115 (.ffa (.t 9) 3),(G.mk none none (.st (.t 115) (.t 110) 1)),gg 116 (.ffa (.t 9) 4),(G.mk none none (.st (.t 116) (.t 112) 1)),gg 117 (.ffa (.t 9) 5),(G.mk none none (.st (.t 117) (.t 113) 1))] (.reg [gg 118 (.ld (.t 4) none),gg 119 (.ld (.t 9) (some 6)),gg 120 (.bsl 95 6 1 [(.int .i64 ((0:Nat):Int)),(.bool false),(.int .u32 ((0:Nat):Int)),(.int .u32 ((0:Nat):Int)),(.int .u32 ((0:Nat):Int)),(.int .i64 ((0:Nat):Int))] [(0,(6,(.t 119)))]),gg 121 (.app 95 6 32 (.t 118) (.t 120)),(G.mk none none (.st (.t 4) (.t 121) 1))])))))) (.reg [gg 122 (.bin .add (.t 19) (xk .i64 1)),gm 19 122]))))))) (sr [gg 123 (.ld (.t 4) none),(G.mk none none (.st (.t 4) (.t 123) 1)),(G.mk none none (.st (.t 5) (xk .i64 0) 1))] .ret)))))) 2 [(.cell 4 none),(.cell 5 none)]) := by kernel_rfl
theorem c103_:compF Tryz.prog 103 = some (.mk (sr [gg 2 (.mov (xk .i64 0))] (.cut (sr [gm 3 0,gg 4 (.bin .geq (.t 3) (xk .u32 65536))] (.cond (.t 4) (sr [gm 5 0,gg 6 (.bik .shr .u64 (.t 5) 16),gm 0 6] (.reg [gg 2 (.mov (xk .i64 16))])) .skip)) (.cut (sr [gm 7 0,gg 8 (.bin .geq (.t 7) (xk .u32 256))] (.cond (.t 8) (sr [gm 9 0,gg 10 (.bik .shr .u64 (.t 9) 8),gm 0 10] (.reg [gm 11 2,gg 12 (.bin .add (.t 11) (xk .i64 8)),gm 2 12])) .skip)) (sr [gm 13 2,gm 14 0,gg 15 (.cvi .u8 (.t 14)),gg 16 (.si (.k (.string (ByteArray.mk #[0,1,2,2,3,3,3,3,4,4,4,4,4,4,4,4,5,5,5,5,5,5,5,5,5,5,5,5,5,5,5,5,6,6,6,6,6,6,6,6,6,6,6,6,6,6,6,6,6,6,6,6,6,6,6,6,6,6,6,6,6,6,6,6,7,7,7,7,7,7,7,7,7,7,7,7,7,7,7,7,7,7,7,7,7,7,7,7,7,7,7,7,7,7,7,7,7,7,7,7,7,7,7,7,7,7,7,7,7,7,7,7,7,7,7,7,7,7,7,7,7,7,7,7,7,7,7,7,8,8,8,8,8,8,8,8,8,8,8,8,8,8,8,8,8,8,8,8,8,8,8,8,8,8,8,8,8,8,8,8,8,8,8,8,8,8,8,8,8,8,8,8,8,8,8,8,8,8,8,8,8,8,8,8,8,8,8,8,8,8,8,8,8,8,8,8,8,8,8,8,8,8,8,8,8,8,8,8,8,8,8,8,8,8,8,8,8,8,8,8,8,8,8,8,8,8,8,8,8,8,8,8,8,8,8,8,8,8,8,8,8,8,8,8,8,8,8,8,8,8,8,8,8,8,8,8]))) (.t 15)),gg 17 (.cvi .i64 (.t 16)),gg 18 (.bin .add (.t 13) (.t 17)),gm 2 18] .ret)))) 1 [(.t 2)]) := by kernel_rfl
theorem c60_:compF Tryz.prog 60 = some (.mk (.cut (sr [gm 9 3,gg 10 (.bin .eql (.t 9) (xk .u32 0)),gm 11 10,gq 12 11 false (.mov (.t 1)),gq 13 11 false (.mov (.t 2)),gq 14 11 false (.bin .geq (.t 12) (.t 13)),gg 15 (.pick (.t 11) (.k (.bool true)) (.t 14)),gm 16 15,gq 17 16 false (.mov (.t 2)),gq 18 16 false (.mov (.t 3)),gq 19 16 false (.bin .gtr (.t 17) (.t 18)),gg 20 (.pick (.t 16) (.k (.bool true)) (.t 19))] (.cond (.t 20) .ret .skip)) (sr [gm 21 0,gg 22 (.nil (.t 21)),gg 23 (.ffa (.t 22) 4),gg 24 (.ld (.t 23) none),gm 25 3,gg 26 (.bin .quo (.t 24) (.t 25)),gm 8 26] (.cut (sr [gm 27 1,gg 28 (.bin .neq (.t 27) (xk .u32 0))] (.cond (.t 28) (.seq (.drw [(.mk (gm 29 0) 0 true []),(.mk (gg 30 (.nil (.t 29))) 1 true []),(.mk (gg 31 (.ffa (.t 30) 5)) 2 true []),(.mk (gg 32 (.ld (.t 31) none)) 3 true []),(.mk (gm 33 0) 4 true []),(.mk (gg 34 (.nil (.t 33))) 5 true []),(.mk (gg 35 (.ffa (.t 34) 4)) 6 true []),(.mk (gg 36 (.ld (.t 35) none)) 7 true []),(.mk (gm 37 8) 8 true []),(.mk (gm 38 3) 9 true []),(.mk (gm 39 1) 10 true []),(.mk (gg 40 (.bin .sub (.t 38) (.t 39))) 11 true []),(.mk (gg 41 (.bin .mul (.t 37) (.t 40))) 12 true []),(.mk (gg 42 (.bin .sub (.t 36) (.t 41))) 13 true []),(.mk (gg 43 (.bin .add (.t 32) (.t 42))) 14 true []),(.mk (gg 44 (.nil (.t 29))) 15 true []),(.mk (gg 45 (.ffa (.t 44) 5)) 16 true []),(.mk (G.mk none none (.st (.t 45) (.t 43) 1)) 17 false [])]) (.reg [gm 46 0,gm 47 8,gm 48 2,gm 49 1,gg 50 (.bin .sub (.t 48) (.t 49)),gg 51 (.bin .mul (.t 47) (.t 50)),gg 52 (.nil (.t 46)),gg 53 (.ffa (.t 52) 4),(G.mk none none (.st (.t 53) (.t 51) 1))])) (.reg [gm 54 0,gg 55 (.nil (.t 54)),gg 56 (.ffa (.t 55) 4),gg 57 (.ld (.t 56) none),gm 58 8,gm 59 3,gm 60 2,gg 61 (.bin .sub (.t 59) (.t 60)),gg 62 (.bin .mul (.t 58) (.t 61)),gg 63 (.bin .sub (.t 57) (.t 62)),gg 64 (.nil (.t 54)),gg 65 (.ffa (.t 64) 4),(G.mk none none (.st (.t 65) (.t 63) 1))]))) (.reg [gm 66 0,gg 67 (.call 102 [(.t 66)])])))) 4 []) := by kernel_rfl
theorem c65_:compF Tryz.prog 65 = some (.mk (.cut (sr [gm 6 1,gg 7 (.bin .eql (.t 6) (xk .u64 0))] (.cond (.t 7) .ret .skip)) (.cut (sr [gm 8 1,gg 9 (.bin .lss (.t 8) (xk .u64 32))] (.cond (.t 9) (.reg [gm 10 2,gm 11 1,gg 12 (.call 104 [(.t 11)]),gg 13 (.bin .and (.t 10) (.t 12)),gm 2 13]) .skip)) (.seq (.drw [(.mk (gm 14 0) 0 true []),(.mk (gg 15 (.nil (.t 14))) 1 true []),(.mk (gg 16 (.ffa (.t 15) 2)) 2 true []),(.mk (gg 17 (.ld (.t 16) none)) 3 true []),(.mk (gm 18 2) 4 true []),(.mk (gg 19 (.cvi .u64 (.t 18))) 5 true []),(.mk (gm 20 0) 6 true []),(.mk (gg 21 (.nil (.t 20))) 7 true []),(.mk (gg 22 (.ffa (.t 21) 3)) 8 true []),(.mk (gg 23 (.ld (.t 22) none)) 9 true []),(.mk (gg 24 (.bin .shl (.t 19) (.t 23))) 10 true []),(.mk (gg 25 (.bin .or (.t 17) (.t 24))) 11 true []),(.mk (gg 26 (.nil (.t 14))) 12 true []),(.mk (gg 27 (.ffa (.t 26) 2)) 13 true []),(.mk (G.mk none none (.st (.t 27) (.t 25) 1)) 14 false [])]) (sr [gm 28 0,gg 29 (.nil (.t 28)),gg 30 (.ffa (.t 29) 3),gg 31 (.ld (.t 30) none),gm 32 1,gg 33 (.bin .add (.t 31) (.t 32)),gg 34 (.nil (.t 28)),gg 35 (.ffa (.t 34) 3),(G.mk none none (.st (.t 35) (.t 33) 1))] (sr [gm 36 0,gg 37 (.nil (.t 36)),gg 38 (.ffa (.t 37) 8),gg 39 (.ld (.t 38) none),gm 40 1,gg 41 (.bin .add (.t 39) (.t 40)),gg 42 (.nil (.t 36)),gg 43 (.ffa (.t 42) 8),(G.mk none none (.st (.t 43) (.t 41) 1))] (.block 0 (.loop (.seq (sr [gm 44 0,gg 45 (.nil (.t 44)),gg 46 (.ffa (.t 45) 3),gg 47 (.ld (.t 46) none),gg 48 (.bin .geq (.t 47) (xk .u64 8))] (.cond (.t 48) .skip (.exit 0))) (.block 1 (.seq (.drw [(.mk (gm 49 0) 0 true []),(.mk (gm 50 0) 1 true []),(.mk (gg 51 (.nil (.t 50))) 2 true []),(.mk (gg 52 (.ffa (.t 51) 1)) 3 true []),(.mk (gg 53 (.ld (.t 52) none)) 4 true []),(.mk (gm 54 0) 5 true []),(.mk (gg 55 (.nil (.t 54))) 6 true []),(.mk (gg 56 (.ffa (.t 55) 2)) 7 true []),(.mk (gg 57 (.ld (.t 56) none)) 8 true []),(.mk (gg 58 (.bin .and (.t 57) (xk .u64 255))) 9 true []),(.mk (gg 59 (.cvi .u8 (.t 58))) 10 true []),(.mk (gg 60 (.bsl 5 1 1 [(.int .u8 ((0:Nat):Int))] [(0,(1,(.t 59)))])) 11 false [4]),(.mk (gg 61 (.app 5 1 1 (.t 53) (.t 60))) 12 false []),(.mk (gg 62 (.nil (.t 49))) 13 true []),(.mk (gg 63 (.ffa (.t 62) 1)) 14 true []),(.mk (G.mk none none (.st (.t 63) (.t 61) 1)) 15 false [])]) (sr [gm 64 0,gg 65 (.nil (.t 64)),gg 66 (.ffa (.t 65) 2),gg 67 (.ld (.t 66) none),gg 68 (.bik .shr .u64 (.t 67) 8),gg 69 (.nil (.t 64)),gg 70 (.ffa (.t 69) 2),(G.mk none none (.st (.t 70) (.t 68) 1))] (.reg [gm 71 0,gg 72 (.nil (.t 71)),gg 73 (.ffa (.t 72) 3),gg 74 (.ld (.t 73) none),gg 75 (.bin .sub (.t 74) (xk .u64 8)),gg 76 (.nil (.t 71)),gg 77 (.ffa (.t 76) 3),(G.mk none none (.st (.t 77) (.t 75) 1))])))))))))))) 3 []) := by kernel_rfl
theorem c104_:compF Tryz.prog 104 = some (.mk (sr [gg 2 (.mov (xk .u32 0))] (.cut (sr [gm 3 0,gg 4 (.bin .geq (.t 3) (xk .u64 32))] (.cond (.t 4) (sr [gg 2 (.mov (xk .u32 4294967295))] .ret) .skip)) (sr [gm 5 0,gg 6 (.bin .shl (xk .u32 1) (.t 5)),gg 7 (.bin .sub (.t 6) (xk .u32 1)),gm 2 7] .ret))) 1 [(.t 2)]) := by kernel_rfl
theorem c110_:compF Tryz.prog 110 = some (.mk (sr [gg 4 (.mov (xk .u32 0))] (.cut (.seq (.drw [(.mk (gm 10 1) 0 true []),(.mk (gg 11 (.bin .gtr (.t 10) (xk .i64 0))) 1 true []),(.mk (gm 12 11) 2 true []),(.mk (gq 13 12 true (.mov (.t 1))) 3 true []),(.mk (gq 14 12 true (.bin .leq (.t 13) (xk .i64 8))) 4 true []),(.mk (gg 15 (.pick (.t 12) (.t 14) (.k (.bool false)))) 5 true []),(.mk (gm 16 15) 6 true []),(.mk (gq 17 16 true (.mov (.t 0))) 7 true []),(.mk (gq 18 16 true (.nil (.t 17))) 8 true []),(.mk (gq 19 16 true (.ffa (.t 18) 1)) 9 true []),(.mk (gq 20 16 true (.ld (.t 19) none)) 10 true []),(.mk (gq 21 16 true (.mov (.t 1))) 11 true []),(.mk (gq 22 16 true (.cvi .u64 (.t 21))) 12 true []),(.mk (gq 23 16 true (.bin .add (.t 20) (.t 22))) 13 true []),(.mk (gq 24 16 true (.mov (.t 0))) 14 true []),(.mk (gq 25 16 true (.nil (.t 24))) 15 true []),(.mk (gq 26 16 true (.ffa (.t 25) 0)) 16 true []),(.mk (gq 27 16 true (.ld (.t 26) none)) 17 true []),(.mk (gq 28 16 true (.len false (.t 27))) 18 true []),(.mk (gq 29 16 true (.cvi .u64 (.t 28))) 19 true []),(.mk (gq 30 16 true (.bin .mul (.t 29) (xk .u64 8))) 20 true []),(.mk (gq 31 16 true (.bin .leq (.t 23) (.t 30))) 21 true []),(.mk (gg 32 (.pick (.t 16) (.t 31) (.k (.bool false)))) 22 true [])]) (.cond (.t 32) (sr [gm 33 0,gg 34 (.nil (.t 33)),gg 35 (.ffa (.t 34) 1),gg 36 (.ld (.t 35) none),gg 37 (.bik .quo .u64 (.t 36) 8),gm 5 37] (sr [gm 38 0,gg 39 (.nil (.t 38)),gg 40 (.ffa (.t 39) 1),gg 41 (.ld (.t 40) none),gg 42 (.bik .rem .u64 (.t 41) 8),gm 6 42] (sr [gm 43 0,gg 44 (.nil (.t 43)),gg 45 (.ffa (.t 44) 0),gg 46 (.ld (.t 45) none),gm 47 5,gg 48 (.ia (.t 46) (.t 47) 1),gg 49 (.ld (.t 48) none),gg 50 (.cvi .u32 (.t 49)),gg 51 (.bik .shl .u64 (.t 50) 8),gm 7 51] (.cut (sr [gm 52 5,gg 53 (.bin .add (.t 52) (xk .u64 1)),gm 54 0,gg 55 (.nil (.t 54)),gg 56 (.ffa (.t 55) 0),gg 57 (.ld (.t 56) none),gg 58 (.len false (.t 57)),gg 59 (.cvi .u64 (.t 58)),gg 60 (.bin .lss (.t 53) (.t 59))] (.cond (.t 60) (.reg [gm 61 7,gm 62 0,gg 63 (.nil (.t 62)),gg 64 (.ffa (.t 63) 0),gg 65 (.ld (.t 64) none),gm 66 5,gg 67 (.bin .add (.t 66) (xk .u64 1)),gg 68 (.ia (.t 65) (.t 67) 1),gg 69 (.ld (.t 68) none),gg 70 (.cvi .u32 (.t 69)),gg 71 (.bin .or (.t 61) (.t 70)),gm 7 71]) .skip)) (sr [gm 72 0,gg 73 (.nil (.t 72)),gg 74 (.ffa (.t 73) 1),gg 75 (.ld (.t 74) none),gm 76 1,gg 77 (.cvi .u64 (.t 76)),gg 78 (.bin .add (.t 75) (.t 77)),gg 79 (.nil (.t 72)),gg 80 (.ffa (.t 79) 1),(G.mk none none (.st (.t 80) (.t 78) 1))] (sr [gm 81 7,gm 82 6,gg 83 (.bin .sub (xk .u64 16) (.t 82)),gm 84 1,gg 85 (.cvi .u64 (.t 84)),gg 86 (.bin .sub (.t 83) (.t 85)),gg 87 (.bin .shr (.t 81) (.t 86)),gm 88 1,gg 89 (.bin .shl (xk .u32 1) (.t 88)),gg 90 (.bin .sub (.t 89) (xk .u32 1)),gg 91 (.bin .and (.t 87) (.t 90)),gm 4 91] .ret)))))) .skip)) (sr [gg 8 (.mov (xk .u32 0))] (.cut (sr [gm 92 1,gg 93 (.mov (xk .i64 0))] (.block 0 (.loop (sr [gg 94 (.bin .lss (.t 93) (.t 92))] (.seq (.cond (.t 94) .skip (.exit 0)) (.cut (.block 1 (sr [gm 95 93,gm 9 95] (.cut (sr [gm 96 9,gg 97 (.bin .neq (.t 96) (xk .i64 0))] (.cond (.t 97) (.reg [gm 98 8,gg 99 (.bik .shl .u64 (.t 98) 1),gm 8 99]) .skip)) (.reg [gm 100 8,gm 101 0,gg 102 (.call 128 [(.t 101)]),gg 103 (.bin .or (.t 100) (.t 102)),gm 8 103])))) (.reg [gg 104 (.bin .add (.t 93) (xk .i64 1)),gm 93 104]))))))) (sr [gm 105 8,gm 4 105] .ret))))) 2 [(.t 4)]) := by kernel_rfl
theorem c111_:compF Tryz.prog 111 = some (.mk (.block 0 (.loop (.seq (sr [gm 2 0,gg 3 (.nil (.t 2)),gg 4 (.ffa (.t 3) 4),gg 5 (.ld (.t 4) none),gg 6 (.bin .leq (.t 5) (xk .u32 8388608))] (.cond (.t 6) .skip (.exit 0))) (.block 1 (sr [gm 7 0,gg 8 (.nil (.t 7)),gg 9 (.ffa (.t 8) 4),gg 10 (.ld (.t 9) none),gg 11 (.bik .shl .u64 (.t 10) 8),gg 12 (.nil (.t 7)),gg 13 (.ffa (.t 12) 4),(G.mk none none (.st (.t 13) (.t 11) 1))] (sr [gm 14 0,gg 15 (.nil (.t 14)),gg 16 (.ffa (.t 15) 3),gg 17 (.ld (.t 16) none),gg 18 (.bin .add (.t 17) (xk .u64 8)),gg 19 (.nil (.t 14)),gg 20 (.ffa (.t 19) 3),(G.mk none none (.st (.t 20) (.t 18) 1))] (.drw [(.mk (gm 21 0) 0 true []),(.mk (gm 22 0) 1 true []),(.mk (gg 23 (.nil (.t 22))) 2 true []),(.mk (gg 24 (.ffa (.t 23) 5)) 3 true []),(.mk (gg 25 (.ld (.t 24) none)) 4 true []),(.mk (gg 26 (.bik .shl .u64 (.t 25) 8)) 5 true []),(.mk (gm 27 0) 6 true []),(.mk (gg 28 (.call 110 [(.t 27),(xk .i64 8)])) 7 false [4]),(.mk (gg 29 (.bin .sub (xk .u32 255) (.t 28))) 8 true []),(.mk (gg 30 (.bin .add (.t 26) (.t 29))) 9 true []),(.mk (gg 31 (.bin .and (.t 30) (xk .u32 2147483647))) 10 true []),(.mk (gg 32 (.nil (.t 21))) 11 true []),(.mk (gg 33 (.ffa (.t 32) 5)) 12 true []),(.mk (G.mk none none (.st (.t 33) (.t 31) 1)) 13 false [])]))))))) 1 []) := by kernel_rfl
theorem c106_:compF Tryz.prog 106 = some (.mk (sr [gg 2 (.mov (xk .i64 0))] (sr [gm 6 0,gg 7 (.nil (.t 6)),gg 8 (.ffa (.t 7) 4),gg 9 (.ld (.t 8) none),gg 10 (.call 103 [(.t 9)]),gg 11 (.bin .sub (xk .i64 32) (.t 10)),gm 3 11] (sr [gm 12 3,gg 13 (.bin .shr (xk .u32 2147483647) (.t 12)),gm 4 13] (sr [gm 14 0,gg 15 (.nil (.t 14)),gg 16 (.ffa (.t 15) 5),gg 17 (.ld (.t 16) none),gm 18 4,gg 19 (.bin .add (.t 17) (.t 18)),gm 20 4,gg 21 (.bin .andNot (.t 19) (.t 20)),gm 5 21] (.cut (.seq (.drw [(.mk (gm 22 5) 0 true []),(.mk (gm 23 4) 1 true []),(.mk (gg 24 (.bin .or (.t 22) (.t 23))) 2 true []),(.mk (gm 25 0) 3 true []),(.mk (gg 26 (.nil (.t 25))) 4 true []),(.mk (gg 27 (.ffa (.t 26) 5)) 5 true []),(.mk (gg 28 (.ld (.t 27) none)) 6 true []),(.mk (gm 29 0) 7 true []),(.mk (gg 30 (.nil (.t 29))) 8 true []),(.mk (gg 31 (.ffa (.t 30) 4)) 9 true []),(.mk (gg 32 (.ld (.t 31) none)) 10 true []),(.mk (gg 33 (.bin .add (.t 28) (.t 32))) 11 true []),(.mk (gg 34 (.bin .geq (.t 24) (.t 33))) 12 true [])]) (.cond (.t 34) (sr [gm 35 3,gg 36 (.bin .add (.t 35) (xk .i64 1)),gm 3 36] (sr [gm 37 4,gg 38 (.bik .shr .u64 (.t 37) 1),gm 4 38] (.reg [gm 39 0,gg 40 (.nil (.t 39)),gg 41 (.ffa (.t 40) 5),gg 42 (.ld (.t 41) none),gm 43 4,gg 44 (.bin .add (.t 42) (.t 43)),gm 45 4,gg 46 (.bin .andNot (.t 44) (.t 45)),gm 5 46]))) .skip)) (.cut (.block 0 (.loop (.seq (sr [gm 47 3,gg 48 (.bin .gtr (.t 47) (xk .i64 0))] (.cond (.t 48) .skip (.exit 0))) (.block 1 (sr [gm 49 0,gm 50 5,gg 51 (.bik .shr .u64 (.t 50) 23),gg 52 (.cvi .i64 (.t 51)),gg 53 (.call 107 [(.t 49),(.t 52)])] (sr [gm 54 5,gg 55 (.bik .shl .u64 (.t 54) 8),gg 56 (.bin .and (.t 55) (xk .u32 2147483647)),gm 5 56] (.reg [gm 57 3,gg 58 (.bin .sub (.t 57) (xk .i64 8)),gm 3 58]))))))) (sr [gm 59 3,gm 2 59] .ret))))))) 1 [(.t 2)]) := by kernel_rfl
theorem c107_:compF Tryz.prog 107 = some (.mk (.cut (sr [gm 6 1,gg 7 (.bin .neq (.t 6) (xk .i64 255))] (.cond (.t 7) (sr [gm 8 1,gg 9 (.bik .shr .u64 (.t 8) 8),gm 4 9] (.cut (sr [gm 10 0,gg 11 (.nil (.t 10)),gg 12 (.ffa (.t 11) 6),gg 13 (.ld (.t 12) none),gg 14 (.bin .geq (.t 13) (xk .i64 0))] (.cond (.t 14) (.drw [(.mk (gm 15 0) 0 true []),(.mk (gm 16 0) 1 true []),(.mk (gg 17 (.nil (.t 16))) 2 true []),(.mk (gg 18 (.ffa (.t 17) 0)) 3 true []),(.mk (gg 19 (.ld (.t 18) none)) 4 true []),(.mk (gm 20 0) 5 true []),(.mk (gg 21 (.nil (.t 20))) 6 true []),(.mk (gg 22 (.ffa (.t 21) 6)) 7 true []),(.mk (gg 23 (.ld (.t 22) none)) 8 true []),(.mk (gm 24 4) 9 true []),(.mk (gg 25 (.bin .add (.t 23) (.t 24))) 10 true []),(.mk (gg 26 (.cvi .u8 (.t 25))) 11 true []),(.mk (gg 27 (.bsl 5 1 1 [(.int .u8 ((0:Nat):Int))] [(0,(1,(.t 26)))])) 12 false [4]),(.mk (gg 28 (.app 5 1 1 (.t 19) (.t 27))) 13 false []),(.mk (gg 29 (.nil (.t 15))) 14 true []),(.mk (gg 30 (.ffa (.t 29) 0)) 15 true []),(.mk (G.mk none none (.st (.t 30) (.t 28) 1)) 16 false [])]) .skip)) (.cut (sr [gm 31 0,gg 32 (.nil (.t 31)),gg 33 (.ffa (.t 32) 7),gg 34 (.ld (.t 33) none),gg 35 (.bin .gtr (.t 34) (xk .i64 0))] (.cond (.t 35) (sr [gm 36 4,gg 37 (.bin .add (xk .i64 255) (.t 36)),gg 38 (.bin .and (.t 37) (xk .i64 255)),gg 39 (.cvi .u8 (.t 38)),gm 5 39] (.cut (sr [gm 40 0,gg 41 (.nil (.t 40)),gg 42 (.ffa (.t 41) 7),gg 43 (.ld (.t 42) none),gg 44 (.mov (xk .i64 0))] (.block 0 (.loop (sr [gg 45 (.bin .lss (.t 44) (.t 43))] (.seq (.cond (.t 45) .skip (.exit 0)) (.seq (.block 1 (.reg [gm 46 0,gm 47 0,gg 48 (.nil (.t 47)),gg 49 (.ffa (.t 48) 0),gg 50 (.ld (.t 49) none),gm 51 5,gg 52 (.bsl 5 1 1 [(.int .u8 ((0:Nat):Int))] [(0,(1,(.t 51)))]),gg 53 (.app 5 1 1 (.t 50) (.t 52)),gg 54 (.nil (.t 46)),gg 55 (.ffa (.t 54) 0),(G.mk none none (.st (.t 55) (.t 53) 1))])) (.reg [gg 56 (.bin .add (.t 44) (xk .i64 1)),gm 44 56]))))))) (.reg [gm 57 0,gg 58 (.nil (.t 57)),gg 59 (.ffa (.t 58) 7),(G.mk none none (.st (.t 59) (xk .i64 0) 1))]))) .skip)) (sr [gm 60 0,gm 61 1,gg 62 (.bin .and (.t 61) (xk .i64 255)),gg 63 (.nil (.t 60)),gg 64 (.ffa (.t 63) 6),(G.mk none none (.st (.t 64) (.t 62) 1))] .ret)))) .skip)) (.reg [gm 65 0,gg 66 (.nil (.t 65)),gg 67 (.ffa (.t 66) 7),gg 68 (.ld (.t 67) none),gg 69 (.bin .add (.t 68) (xk .i64 1)),gg 70 (.nil (.t 65)),gg 71 (.ffa (.t 70) 7),(G.mk none none (.st (.t 71) (.t 69) 1))])) 2 []) := by kernel_rfl
theorem c108_:compF Tryz.prog 108 = some (.mk (sr [gg 2 (.mov (xk .i64 0))] (.cut (sr [gm 3 0] (.cond (.t 3) (sr [gg 2 (.mov (xk .i64 1))] .ret) .skip)) (sr [gg 2 (.mov (xk .i64 0))] .ret))) 1 [(.t 2)]) := by kernel_rfl
theorem c109_:compF Tryz.prog 109 = some (.mk (sr [gg 4 (.mov (.k (.bool false)))] (sr [gm 5 0,gg 6 (.nil (.t 5)),gg 7 (.ffa (.t 6) 3),gg 8 (.ld (.t 7) none),gg 9 (.bin .gtr (.t 8) (xk .u64 0)),gm 10 9,gq 11 10 true (.mov (.t 0)),gq 12 10 true (.nil (.t 11)),gq 13 10 true (.ffa (.t 12) 0),gq 14 10 true (.ld (.t 13) none),gq 15 10 true (.len false (.t 14)),gq 16 10 true (.bin .eql (.t 15) (xk .i64 0)),gq 17 10 true (.mov (.t 16)),gq 18 17 false (.mov (.t 0)),gq 19 17 false (.nil (.t 18)),gq 20 17 false (.ffa (.t 19) 3),gq 21 17 false (.ld (.t 20) none),gq 22 17 false (.mov (.t 1)),gq 23 17 false (.bin .gtr (.t 21) (.t 22)),gq 24 10 true (.pick (.t 17) (.k (.bool true)) (.t 23)),gg 25 (.pick (.t 10) (.t 24) (.k (.bool false))),gm 4 25] .ret)) 2 [(.t 4)]) := by kernel_rfl
theorem c63_:compF Tryz.prog 63 = some (.mk (sr [gg 2 (.mov (.k (.slice none 0 0)))] (sr [gg 3 (.mov (.k (.slice none 0 0)))] (.cut (sr [gm 6 0,gg 7 (.len false (.t 6)),gg 8 (.mov (xk .i64 0))] (.block 0 (.loop (sr [gg 9 (.bin .lss (.t 8) (.t 7))] (.seq (.cond (.t 9) .skip (.exit 0)) (.seq (.block 1 (sr [gg 10 (.ia (.t 6) (.t 8) 1),gg 11 (.ld (.t 10) none),gm 5 11] (.reg [gm 12 3,gm 13 5,gg 14 (.cvi .u64 (.t 13)),gg 15 (.bsl 132 1 1 [(.int .u64 ((0:Nat):Int))] [(0,(1,(.t 14)))]),gg 16 (.app 132 1 8 (.t 12) (.t 15)),gm 3 16]))) (.reg [gg 17 (.bin .add (.t 8) (xk .i64 1)),gm 8 17]))))))) (sr [gm 18 3,gm 2 18] .ret)))) 1 [(.t 2)]) := by kernel_rfl
theorem c67_:compF Tryz.prog 67 = some (.mk (sr [gg 2 (.mov (xk .u32 0))] (sr [gm 3 0,gg 4 (.nil (.t 3)),gg 5 (.ffa (.t 4) 4),gg 6 (.ld (.t 5) none),gm 2 6] .ret)) 1 [(.t 2)]) := by kernel_rfl
theorem c68_:compF Tryz.prog 68 = some (.mk (sr [gg 2 (.mov (xk .u64 0))] (sr [gm 4 0,gg 5 (.nil (.t 4)),gg 6 (.ffa (.t 5) 4),gg 7 (.ld (.t 6) none),gg 8 (.call 103 [(.t 7)]),gg 9 (.cvi .u64 (.t 8)),gm 3 9] (.cut (sr [gm 10 3,gg 11 (.bin .eql (.t 10) (xk .u64 0))] (.cond (.t 11) (sr [gm 12 0,gg 13 (.nil (.t 12)),gg 14 (.ffa (.t 13) 8),gg 15 (.ld (.t 14) none),gm 2 15] .ret) .skip)) (.cut (sr [gm 16 0,gg 17 (.nil (.t 16)),gg 18 (.ffa (.t 17) 8),gg 19 (.ld (.t 18) none),gm 20 3,gg 21 (.bin .leq (.t 19) (.t 20))] (.cond (.t 21) (sr [gg 2 (.mov (xk .u64 0))] .ret) .skip)) (sr [gm 22 0,gg 23 (.nil (.t 22)),gg 24 (.ffa (.t 23) 8),gg 25 (.ld (.t 24) none),gm 26 3,gg 27 (.bin .sub (.t 25) (.t 26)),gm 2 27] .ret))))) 1 [(.t 2)]) := by kernel_rfl
theorem c69_:compF Tryz.prog 69 = some (.mk (sr [gg 2 (.mov (xk .u64 0))] (sr [gm 7 0,gg 8 (.nil (.t 7)),gg 9 (.ffa (.t 8) 4),gg 10 (.ld (.t 9) none),gg 11 (.call 103 [(.t 10)]),gg 12 (.cvi .u64 (.t 11)),gm 3 12] (.cut (sr [gm 13 3,gg 14 (.bin .eql (.t 13) (xk .u64 0))] (.cond (.t 14) (sr [gm 15 0,gg 16 (.nil (.t 15)),gg 17 (.ffa (.t 16) 8),gg 18 (.ld (.t 17) none),gg 19 (.bin .mul (.t 18) (xk .u64 8)),gm 2 19] .ret) .skip)) (.cut (sr [gm 20 3,gg 21 (.bin .lss (.t 20) (xk .u64 24))] (.cond (.t 21) (sr [gm 22 0,gg 23 (.call 68 [(.t 22)]),gg 24 (.bin .mul (.t 23) (xk .u64 8)),gm 2 24] .ret) .skip)) (sr [gm 25 0,gg 26 (.nil (.t 25)),gg 27 (.ffa (.t 26) 4),gg 28 (.ld (.t 27) none),gm 29 3,gg 30 (.bin .sub (.t 29) (xk .u64 16)),gg 31 (.bin .shr (.t 28) (.t 30)),gg 32 (.cvi .u64 (.t 31)),gm 4 32] (.cut (sr [gg 33 (.mov (xk .i64 0))] (.block 0 (.loop (sr [gg 34 (.bin .lss (.t 33) (xk .i64 3))] (.seq (.cond (.t 34) .skip (.exit 0)) (.cut (.block 1 (sr [gm 35 4,gm 36 4,gg 37 (.bin .mul (.t 35) (.t 36)),gg 38 (.bik .shr .u64 (.t 37) 15),gm 4 38] (sr [gm 39 4,gg 40 (.bik .shr .u64 (.t 39) 16),gm 5 40] (sr [gm 41 3,gg 42 (.bin .mul (xk .u64 2) (.t 41)),gm 43 5,gg 44 (.bin .add (.t 42) (.t 43)),gm 3 44] (sr [gm 45 5,gg 46 (.bin .neq (.t 45) (xk .u64 0))] (.cond (.t 46) (.reg [gm 47 4,gg 48 (.bik .shr .u64 (.t 47) 1),gm 4 48]) .skip)))))) (.reg [gg 49 (.bin .add (.t 33) (xk .i64 1)),gm 33 49]))))))) (sr [gm 50 0,gg 51 (.nil (.t 50)),gg 52 (.ffa (.t 51) 8),gg 53 (.ld (.t 52) none),gg 54 (.bin .mul (.t 53) (xk .u64 8)),gm 6 54] (.cut (sr [gm 55 6,gm 56 3,gg 57 (.bin .leq (.t 55) (.t 56))] (.cond (.t 57) (sr [gg 2 (.mov (xk .u64 0))] .ret) .skip)) (sr [gm 58 6,gm 59 3,gg 60 (.bin .sub (.t 58) (.t 59)),gm 2 60] .ret))))))))) 1 [(.t 2)]) := by kernel_rfl
theorem c73_:compF Tryz.prog 73 = some (.mk (sr [gg 4 (.mov (xk .u32 0))] (sr [gm 5 0,gm 6 1,gg 7 (.call 112 [(.t 5),(.t 6)]),gm 4 7] .ret)) 2 [(.t 4)]) := by kernel_rfl
theorem c74_:compF Tryz.prog 74 = some (.mk (.reg [gm 8 0,gm 9 0,gg 10 (.nil (.t 9)),gg 11 (.ffa (.t 10) 4),gg 12 (.ld (.t 11) none),gm 13 3,gg 14 (.bin .quo (.t 12) (.t 13)),gm 15 1,gm 16 2,gm 17 3,gg 18 (.call 113 [(.t 8),(.t 14),(.t 15),(.t 16),(.t 17)])]) 4 []) := by kernel_rfl
theorem c75_:compF Tryz.prog 75 = some (.mk (sr [gg 4 (.mov (xk .u32 0))] (sr [gm 7 0,gg 8 (.nil (.t 7)),gg 9 (.ffa (.t 8) 4),gg 10 (.ld (.t 9) none),gm 11 1,gg 12 (.bin .shr (.t 10) (.t 11)),gm 5 12] (sr [gg 6 (.mov (xk .u32 0))] (.cut (sr [gm 13 0,gg 14 (.nil (.t 13)),gg 15 (.ffa (.t 14) 5),gg 16 (.ld (.t 15) none),gm 17 5,gg 18 (.bin .geq (.t 16) (.t 17))] (.cond (.t 18) (sr [gm 19 0,gg 20 (.nil (.t 19)),gg 21 (.ffa (.t 20) 5),gg 22 (.ld (.t 21) none),gm 23 5,gg 24 (.bin .sub (.t 22) (.t 23)),gg 25 (.nil (.t 19)),gg 26 (.ffa (.t 25) 5),(G.mk none none (.st (.t 26) (.t 24) 1))] (.reg [gm 27 0,gg 28 (.nil (.t 27)),gg 29 (.ffa (.t 28) 4),gg 30 (.ld (.t 29) none),gm 31 5,gg 32 (.bin .sub (.t 30) (.t 31)),gg 33 (.nil (.t 27)),gg 34 (.ffa (.t 33) 4),(G.mk none none (.st (.t 34) (.t 32) 1))])) (sr [gm 35 0,gm 36 5,gg 37 (.nil (.t 35)),gg 38 (.ffa (.t 37) 4),(G.mk none none (.st (.t 38) (.t 36) 1))] (.reg [gg 6 (.mov (xk .u32 1))])))) (sr [gm 39 0,gg 40 (.call 111 [(.t 39)])] (sr [gm 41 6,gm 4 41] .ret)))))) 2 [(.t 4)]) := by kernel_rfl
theorem c76_:compF Tryz.prog 76 = some (.mk (sr [gg 4 (.mov (xk .u32 0))] (sr [gm 11 1,gg 12 (.ia (.t 11) (xk .i64 0) 1),gg 13 (.ld (.t 12) none),gg 14 (.cvi .u32 (.t 13)),gm 5 14] (sr [gm 15 1,gg 16 (.slq (.t 15) (some (xk .i64 1)) none 1),gm 1 16] (sr [gm 17 0,gg 18 (.nil (.t 17)),gg 19 (.ffa (.t 18) 4),gg 20 (.ld (.t 19) none),gm 21 5,gg 22 (.bin .quo (.t 20) (.t 21)),gm 6 22] (sr [gm 23 0,gg 24 (.nil (.t 23)),gg 25 (.ffa (.t 24) 5),gg 26 (.ld (.t 25) none),gm 27 6,gg 28 (.bin .quo (.t 26) (.t 27)),gg 29 (.bin .add (.t 28) (xk .u32 1)),gm 7 29] (sr [gm 30 5,gm 31 7,gg 32 (.cvi .u64 (.t 31)),gm 33 5,gg 34 (.cvi .u64 (.t 33)),gg 35 (.call 114 [(.t 32),(.t 34)]),gg 36 (.cvi .u32 (.t 35)),gg 37 (.bin .sub (.t 30) (.t 36)),gm 7 37] (sr [gg 8 (.mov (xk .u32 0))] (.cut (.block 0 (.loop (.seq (sr [gm 38 1,gm 39 8,gg 40 (.ia (.t 38) (.t 39) 1),gg 41 (.ld (.t 40) none),gg 42 (.cvi .u32 (.t 41)),gm 43 7,gg 44 (.bin .leq (.t 42) (.t 43))] (.cond (.t 44) .skip (.exit 0))) (.block 1 (.reg [gm 45 8,gg 46 (.bin .add (.t 45) (xk .u32 1)),gm 8 46]))))) (sr [gm 47 1,gm 48 8,gg 49 (.ia (.t 47) (.t 48) 1),gg 50 (.ld (.t 49) none),gg 51 (.cvi .u32 (.t 50)),gm 9 51] (sr [gg 10 (.mov (xk .u32 0))] (.cut (sr [gm 52 8,gg 53 (.bin .neq (.t 52) (xk .u32 0))] (.cond (.t 53) (.reg [gm 54 1,gm 55 8,gg 56 (.bin .sub (.t 55) (xk .u32 1)),gg 57 (.ia (.t 54) (.t 56) 1),gg 58 (.ld (.t 57) none),gg 59 (.cvi .u32 (.t 58)),gm 10 59]) .skip)) (sr [gm 60 0,gm 61 6,gm 62 10,gm 63 9,gm 64 5,gg 65 (.call 113 [(.t 60),(.t 61),(.t 62),(.t 63),(.t 64)])] (sr [gm 66 8,gm 4 66] .ret))))))))))))) 2 [(.t 4)]) := by kernel_rfl
theorem c77_:compF Tryz.prog 77 = some (.mk (sr [gg 4 (.mov (xk .u32 0)),gg 5 (.mov (.k (.bool false)))] (.cut (sr [gm 12 1,gg 13 (.bin .eql (.t 12) (xk .u32 0))] (.cond (.t 13) (sr [gg 4 (.mov (xk .u32 0)),gg 5 (.mov (.k (.bool false)))] .ret) .skip)) (.cut (sr [gm 14 1,gg 15 (.bin .eql (.t 14) (xk .u32 1))] (.cond (.t 15) (sr [gg 4 (.mov (xk .u32 0)),gg 5 (.mov (.k (.bool true)))] .ret) .skip)) (sr [gm 16 1,gg 17 (.bin .sub (.t 16) (xk .u32 1)),gm 6 17] (sr [gm 18 6,gg 19 (.call 103 [(.t 18)]),gm 7 19] (.cut (sr [gm 20 7,gg 21 (.bin .leq (.t 20) (xk .i64 8))] (.cond (.t 21) (sr [gm 22 0,gm 23 1,gg 24 (.call 115 [(.t 22),(.t 23)]),gm 4 24,gg 5 (.mov (.k (.bool true)))] .ret) .skip)) (sr [gm 25 7,gg 26 (.bin .sub (.t 25) (xk .i64 8)),gm 8 26] (sr [gm 27 6,gm 28 8,gg 29 (.bin .shr (.t 27) (.t 28)),gg 30 (.bin .add (.t 29) (xk .u32 1)),gm 9 30] (sr [gm 31 0,gm 32 9,gg 33 (.call 115 [(.t 31),(.t 32)]),gm 10 33] (.seq (.drw [(.mk (gm 34 10) 0 true []),(.mk (gm 35 8) 1 true []),(.mk (gg 36 (.bin .shl (.t 34) (.t 35))) 2 true []),(.mk (gm 37 0) 3 true []),(.mk (gm 38 8) 4 true []),(.mk (gg 39 (.cvi .u64 (.t 38))) 5 true []),(.mk (gg 40 (.call 78 [(.t 37),(.t 39)])) 6 false []),(.mk (gg 41 (.bin .or (.t 36) (.t 40))) 7 true []),(.mk (gm 11 41) 8 true [])]) (.cut (sr [gm 42 11,gm 43 6,gg 44 (.bin .leq (.t 42) (.t 43))] (.cond (.t 44) (sr [gm 45 11,gm 4 45,gg 5 (.mov (.k (.bool true)))] .ret) .skip)) (sr [gm 46 6,gm 4 46,gg 5 (.mov (.k (.bool false)))] .ret)))))))))))) 2 [(.t 4),(.t 5)]) := by kernel_rfl
theorem c78_:compF Tryz.prog 78 = some (.mk (sr [gg 4 (.mov (xk .u32 0))] (sr [gm 5 0,gm 6 1,gg 7 (.call 116 [(.t 5),(.t 6)]),gm 4 7] .ret)) 2 [(.t 4)]) := by kernel_rfl
theorem c79_:compF Tryz.prog 79 = some (.mk (sr [gg 6 (.mov (xk .i64 0))] (sr [gg 7 (.mov (xk .i64 0))] (sr [gm 13 0,gg 14 (.call 112 [(.t 13),(xk .u32 32768)]),gm 8 14] (sr [gg 9 (.mov (xk .u32 0))] (sr [gm 15 1,gm 10 15] (.cut (sr [gm 16 8,gm 17 10,gg 18 (.bin .geq (.t 16) (.t 17))] (.cond (.t 18) (sr [gm 19 7,gg 20 (.bin .add (.t 19) (xk .i64 1)),gm 7 20] (sr [gm 21 10,gm 9 21] (sr [gm 22 1,gm 23 2,gg 24 (.call 117 [(.t 22),(.t 23)]),gg 25 (.bin .add (.t 24) (xk .u32 1)),gm 10 25] (.cut (.block 0 (.loop (.seq (sr [gm 26 10,gg 27 (.bin .gtr (.t 26) (xk .u32 1)),gm 28 27,gq 29 28 true (.mov (.t 8)),gq 30 28 true (.mov (.t 9)),gq 31 28 true (.mov (.t 10)),gq 32 28 true (.bin .mul (xk .u32 2) (.t 31)),gq 33 28 true (.bin .add (.t 30) (.t 32)),gq 34 28 true (.bin .geq (.t 29) (.t 33)),gg 35 (.pick (.t 28) (.t 34) (.k (.bool false)))] (.cond (.t 35) .skip (.exit 0))) (.block 1 (sr [gm 36 10,gg 37 (.bin .mul (.t 36) (xk .u32 2)),gm 10 37] (sr [gm 38 9,gm 39 10,gg 40 (.bin .add (.t 38) (.t 39)),gm 9 40] (sr [gm 41 10,gg 42 (.bin .sub (.t 41) (xk .u32 2)),gm 43 2,gg 44 (.bin .mul (.t 42) (.t 43)),gg 45 (.bik .shr .u64 (.t 44) 15),gm 10 45] (sr [gm 46 10,gg 47 (.bin .add (.t 46) (xk .u32 1)),gm 10 47] (.reg [gm 48 7,gg 49 (.bin .add (.t 48) (xk .i64 1)),gm 7 49]))))))))) (.cut (sr [gm 50 10,gg 51 (.bin .leq (.t 50) (xk .u32 1))] (.cond (.t 51) (sr [gm 52 8,gm 53 9,gg 54 (.bin .sub (.t 52) (.t 53)),gg 55 (.bik .shr .u64 (.t 54) 1),gm 11 55] (sr [gm 56 7,gm 57 11,gg 58 (.cvi .i64 (.t 57)),gg 59 (.bin .add (.t 56) (.t 58)),gm 7 59] (.reg [gm 60 9,gm 61 11,gg 62 (.bin .mul (xk .u32 2) (.t 61)),gg 63 (.bin .mul (.t 62) (xk .u32 1)),gg 64 (.bin .add (.t 60) (.t 63)),gm 9 64]))) .skip)) (sr [gm 65 8,gm 66 9,gm 67 10,gg 68 (.bin .add (.t 66) (.t 67)),gg 69 (.bin .lss (.t 65) (.t 68))] (.cond (.t 69) (.reg [gm 70 7,gg 71 (.un .neg (.t 70)),gm 7 71]) (.reg [gm 72 9,gm 73 10,gg 74 (.bin .add (.t 72) (.t 73)),gm 9 74])))))))) .skip)) (sr [gm 75 9,gm 76 10,gg 77 (.bin .add (.t 75) (.t 76)),gg 78 (.mn (.t 77) [(xk .u32 32768)]),gm 12 78] (sr [gm 79 0,gm 80 0,gg 81 (.nil (.t 80)),gg 82 (.ffa (.t 81) 4),gg 83 (.ld (.t 82) none),gg 84 (.bik .quo .u32 (.t 83) 32768),gm 85 9,gm 86 12,gg 87 (.call 113 [(.t 79),(.t 84),(.t 85),(.t 86),(xk .u32 32768)])] (sr [gm 88 7,gm 6 88] .ret))))))))) 3 [(.t 6)]) := by kernel_rfl
theorem c80_:compF Tryz.prog 80 = some (.mk (.cut (sr [gm 4 1,gg 5 (.bin .lss (.t 4) (xk .i64 0))] (.cond (.t 5) (.reg [gg 1 (.mov (xk .i64 0))]) .skip)) (sr [gm 6 1,gm 7 0,gg 8 (.nil (.t 7)),gg 9 (.ffa (.t 8) 0),gg 10 (.ld (.t 9) none),gg 11 (.len false (.t 10)),gg 12 (.bin .lss (.t 6) (.t 11))] (.cond (.t 12) (.reg [gm 13 0,gm 14 0,gg 15 (.nil (.t 14)),gg 16 (.ffa (.t 15) 0),gg 17 (.ld (.t 16) none),gm 18 1,gg 19 (.slc (.t 17) none (some (.t 18)) 1),gg 20 (.nil (.t 13)),gg 21 (.ffa (.t 20) 0),(G.mk none none (.st (.t 21) (.t 19) 1))]) .skip))) 2 []) := by kernel_rfl
theorem c81_:compF Tryz.prog 81 = some (.mk (sr [gg 2 (.mov (xk .u32 0))] (sr [gm 3 0,gg 4 (.nil (.t 3)),gg 5 (.ffa (.t 4) 4),gg 6 (.ld (.t 5) none),gm 2 6] .ret)) 1 [(.t 2)]) := by kernel_rfl
theorem c82_:compF Tryz.prog 82 = some (.mk (sr [gg 2 (.mov (xk .u64 0))] (sr [gm 4 0,gg 5 (.nil (.t 4)),gg 6 (.ffa (.t 5) 4),gg 7 (.ld (.t 6) none),gg 8 (.call 103 [(.t 7)]),gg 9 (.cvi .u64 (.t 8)),gm 3 9] (.cut (sr [gm 10 3,gg 11 (.bin .eql (.t 10) (xk .u64 0))] (.cond (.t 11) (sr [gm 12 0,gg 13 (.nil (.t 12)),gg 14 (.ffa (.t 13) 3),gg 15 (.ld (.t 14) none),gm 2 15] .ret) .skip)) (.cut (sr [gm 16 0,gg 17 (.nil (.t 16)),gg 18 (.ffa (.t 17) 3),gg 19 (.ld (.t 18) none),gm 20 3,gg 21 (.bin .leq (.t 19) (.t 20))] (.cond (.t 21) (sr [gg 2 (.mov (xk .u64 0))] .ret) .skip)) (sr [gm 22 0,gg 23 (.nil (.t 22)),gg 24 (.ffa (.t 23) 3),gg 25 (.ld (.t 24) none),gm 26 3,gg 27 (.bin .sub (.t 25) (.t 26)),gm 2 27] .ret))))) 1 [(.t 2)]) := by kernel_rfl
theorem c83_:compF Tryz.prog 83 = some (.mk (sr [gg 2 (.mov (xk .u64 0))] (sr [gm 7 0,gg 8 (.nil (.t 7)),gg 9 (.ffa (.t 8) 4),gg 10 (.ld (.t 9) none),gg 11 (.call 103 [(.t 10)]),gg 12 (.cvi .u64 (.t 11)),gm 3 12] (.cut (sr [gm 13 3,gg 14 (.bin .eql (.t 13) (xk .u64 0))] (.cond (.t 14) (sr [gm 15 0,gg 16 (.nil (.t 15)),gg 17 (.ffa (.t 16) 3),gg 18 (.ld (.t 17) none),gg 19 (.bin .mul (.t 18) (xk .u64 8)),gm 2 19] .ret) .skip)) (.cut (sr [gm 20 3,gg 21 (.bin .lss (.t 20) (xk .u64 24))] (.cond (.t 21) (sr [gm 22 0,gg 23 (.call 82 [(.t 22)]),gg 24 (.bin .mul (.t 23) (xk .u64 8)),gm 2 24] .ret) .skip)) (sr [gm 25 0,gg 26 (.nil (.t 25)),gg 27 (.ffa (.t 26) 4),gg 28 (.ld (.t 27) none),gm 29 3,gg 30 (.bin .sub (.t 29) (xk .u64 16)),gg 31 (.bin .shr (.t 28) (.t 30)),gg 32 (.cvi .u64 (.t 31)),gm 4 32] (.cut (sr [gg 33 (.mov (xk .i64 0))] (.block 0 (.loop (sr [gg 34 (.bin .lss (.t 33) (xk .i64 3))] (.seq (.cond (.t 34) .skip (.exit 0)) (.cut (.block 1 (sr [gm 35 4,gm 36 4,gg 37 (.bin .mul (.t 35) (.t 36)),gg 38 (.bik .shr .u64 (.t 37) 15),gm 4 38] (sr [gm 39 4,gg 40 (.bik .shr .u64 (.t 39) 16),gm 5 40] (sr [gm 41 3,gg 42 (.bin .mul (xk .u64 2) (.t 41)),gm 43 5,gg 44 (.bin .add (.t 42) (.t 43)),gm 3 44] (sr [gm 45 5,gg 46 (.bin .neq (.t 45) (xk .u64 0))] (.cond (.t 46) (.reg [gm 47 4,gg 48 (.bik .shr .u64 (.t 47) 1),gm 4 48]) .skip)))))) (.reg [gg 49 (.bin .add (.t 33) (xk .i64 1)),gm 33 49]))))))) (sr [gm 50 0,gg 51 (.nil (.t 50)),gg 52 (.ffa (.t 51) 3),gg 53 (.ld (.t 52) none),gg 54 (.bin .mul (.t 53) (xk .u64 8)),gm 6 54] (.cut (sr [gm 55 6,gm 56 3,gg 57 (.bin .leq (.t 55) (.t 56))] (.cond (.t 57) (sr [gg 2 (.mov (xk .u64 0))] .ret) .skip)) (sr [gm 58 6,gm 59 3,gg 60 (.bin .sub (.t 58) (.t 59)),gm 2 60] .ret))))))))) 1 [(.t 2)]) := by kernel_rfl
theorem c84_:compF Tryz.prog 84 = some (.mk (sr [gg 2 (.mov (xk .i64 0))] (.seq (.drw [(.mk (gm 3 0) 0 true []),(.mk (gg 4 (.nil (.t 3))) 1 true []),(.mk (gg 5 (.ffa (.t 4) 0)) 2 true []),(.mk (gg 6 (.ld (.t 5) none)) 3 true []),(.mk (gg 7 (.len false (.t 6))) 4 true []),(.mk (gg 8 (.bin .mul (.t 7) (xk .i64 8))) 5 true []),(.mk (gm 9 0) 6 true []),(.mk (gg 10 (.nil (.t 9))) 7 true []),(.mk (gg 11 (.ffa (.t 10) 1)) 8 true []),(.mk (gg 12 (.ld (.t 11) none)) 9 true []),(.mk (gg 13 (.cvi .i64 (.t 12))) 10 true []),(.mk (gg 14 (.bin .sub (.t 8) (.t 13))) 11 true []),(.mk (gm 15 0) 12 true []),(.mk (gg 16 (.nil (.t 15))) 13 true []),(.mk (gg 17 (.ffa (.t 16) 2)) 14 true []),(.mk (gg 18 (.ld (.t 17) none)) 15 true []),(.mk (gg 19 (.cvi .i64 (.t 18))) 16 true []),(.mk (gg 20 (.bin .sub (.t 14) (.t 19))) 17 true []),(.mk (gm 2 20) 18 true [])]) .ret)) 1 [(.t 2)]) := by kernel_rfl
theorem c102_:compF Tryz.prog 102 = some (.mk (.block 0 (.loop (.seq (sr [gm 2 0,gg 3 (.nil (.t 2)),gg 4 (.ffa (.t 3) 4),gg 5 (.ld (.t 4) none),gg 6 (.bin .leq (.t 5) (xk .u32 8388608))] (.cond (.t 6) .skip (.exit 0))) (.block 1 (sr [gm 7 0,gm 8 0,gg 9 (.nil (.t 8)),gg 10 (.ffa (.t 9) 5),gg 11 (.ld (.t 10) none),gg 12 (.bik .shr .u64 (.t 11) 23),gg 13 (.cvi .i64 (.t 12)),gg 14 (.call 107 [(.t 7),(.t 13)])] (sr [gm 15 0,gm 16 0,gg 17 (.nil (.t 16)),gg 18 (.ffa (.t 17) 5),gg 19 (.ld (.t 18) none),gg 20 (.bik .shl .u64 (.t 19) 8),gg 21 (.bin .and (.t 20) (xk .u32 2147483647)),gg 22 (.nil (.t 15)),gg 23 (.ffa (.t 22) 5),(G.mk none none (.st (.t 23) (.t 21) 1))] (sr [gm 24 0,gg 25 (.nil (.t 24)),gg 26 (.ffa (.t 25) 4),gg 27 (.ld (.t 26) none),gg 28 (.bik .shl .u64 (.t 27) 8),gg 29 (.nil (.t 24)),gg 30 (.ffa (.t 29) 4),(G.mk none none (.st (.t 30) (.t 28) 1))] (.reg [gm 31 0,gg 32 (.nil (.t 31)),gg 33 (.ffa (.t 32) 8),gg 34 (.ld (.t 33) none),gg 35 (.bin .add (.t 34) (xk .u64 8)),gg 36 (.nil (.t 31)),gg 37 (.ffa (.t 36) 8),(G.mk none none (.st (.t 37) (.t 35) 1))])))))))) 1 []) := by kernel_rfl
theorem c128_:compF Tryz.prog 128 = some (.mk (sr [gg 2 (.mov (xk .u32 0))] (sr [gm 5 0,gg 6 (.nil (.t 5)),gg 7 (.ffa (.t 6) 1),gg 8 (.ld (.t 7) none),gg 9 (.bik .quo .u64 (.t 8) 8),gm 3 9] (sr [gm 10 0,gg 11 (.nil (.t 10)),gg 12 (.ffa (.t 11) 1),gg 13 (.ld (.t 12) none),gg 14 (.bik .rem .u64 (.t 13) 8),gm 4 14] (.cut (sr [gm 15 3,gm 16 0,gg 17 (.nil (.t 16)),gg 18 (.ffa (.t 17) 0),gg 19 (.ld (.t 18) none),gg 20 (.len false (.t 19)),gg 21 (.cvi .u64 (.t 20)),gg 22 (.bin .geq (.t 15) (.t 21))] (.cond (.t 22) (sr [gg 2 (.mov (xk .u32 0))] .ret) .skip)) (sr [gm 23 0,gg 24 (.nil (.t 23)),gg 25 (.ffa (.t 24) 1),gg 26 (.ld (.t 25) none),gg 27 (.bin .add (.t 26) (xk .u64 1)),gg 28 (.nil (.t 23)),gg 29 (.ffa (.t 28) 1),(G.mk none none (.st (.t 29) (.t 27) 1))] (sr [gm 30 0,gg 31 (.nil (.t 30)),gg 32 (.ffa (.t 31) 0),gg 33 (.ld (.t 32) none),gm 34 3,gg 35 (.ia (.t 33) (.t 34) 1),gg 36 (.ld (.t 35) none),gm 37 4,gg 38 (.bin .sub (xk .u64 7) (.t 37)),gg 39 (.bin .shr (.t 36) (.t 38)),gg 40 (.bin .and (.t 39) (xk .u8 1)),gg 41 (.cvi .u32 (.t 40)),gm 2 41] .ret)))))) 1 [(.t 2)]) := by kernel_rfl
theorem c112_:compF Tryz.prog 112 = some (.mk (sr [gg 4 (.mov (xk .u32 0))] (sr [gm 7 0,gg 8 (.nil (.t 7)),gg 9 (.ffa (.t 8) 4),gg 10 (.ld (.t 9) none),gm 11 1,gg 12 (.bin .quo (.t 10) (.t 11)),gm 5 12] (sr [gm 13 0,gg 14 (.nil (.t 13)),gg 15 (.ffa (.t 14) 5),gg 16 (.ld (.t 15) none),gm 17 5,gg 18 (.bin .quo (.t 16) (.t 17)),gg 19 (.bin .add (.t 18) (xk .u32 1)),gm 6 19] (sr [gm 20 1,gm 21 6,gg 22 (.cvi .u64 (.t 21)),gm 23 1,gg 24 (.cvi .u64 (.t 23)),gg 25 (.call 114 [(.t 22),(.t 24)]),gg 26 (.cvi .u32 (.t 25)),gg 27 (.bin .sub (.t 20) (.t 26)),gm 4 27] .ret)))) 2 [(.t 4)]) := by kernel_rfl
theorem c113_:compF Tryz.prog 113 = some (.mk (sr [gm 10 0,gg 11 (.nil (.t 10)),gg 12 (.ffa (.t 11) 5),gg 13 (.ld (.t 12) none),gm 14 1,gm 15 4,gm 16 3,gg 17 (.bin .sub (.t 15) (.t 16)),gg 18 (.bin .mul (.t 14) (.t 17)),gg 19 (.bin .sub (.t 13) (.t 18)),gg 20 (.nil (.t 10)),gg 21 (.ffa (.t 20) 5),(G.mk none none (.st (.t 21) (.t 19) 1))] (.cut (sr [gm 22 2,gg 23 (.bin .neq (.t 22) (xk .u32 0))] (.cond (.t 23) (.reg [gm 24 0,gm 25 1,gm 26 3,gm 27 2,gg 28 (.bin .sub (.t 26) (.t 27)),gg 29 (.bin .mul (.t 25) (.t 28)),gg 30 (.nil (.t 24)),gg 31 (.ffa (.t 30) 4),(G.mk none none (.st (.t 31) (.t 29) 1))]) (.reg [gm 32 0,gg 33 (.nil (.t 32)),gg 34 (.ffa (.t 33) 4),gg 35 (.ld (.t 34) none),gm 36 1,gm 37 4,gm 38 3,gg 39 (.bin .sub (.t 37) (.t 38)),gg 40 (.bin .mul (.t 36) (.t 39)),gg 41 (.bin .sub (.t 35) (.t 40)),gg 42 (.nil (.t 32)),gg 43 (.ffa (.t 42) 4),(G.mk none none (.st (.t 43) (.t 41) 1))]))) (.reg [gm 44 0,gg 45 (.call 111 [(.t 44)])]))) 5 []) := by kernel_rfl
theorem c114_:compF Tryz.prog 114 = some (.mk (sr [gg 4 (.mov (xk .u64 0))] (.cut (sr [gm 5 0,gm 6 1,gg 7 (.bin .lss (.t 5) (.t 6))] (.cond (.t 7) (sr [gm 8 0,gm 4 8] .ret) .skip)) (sr [gm 9 1,gm 4 9] .ret))) 2 [(.t 4)]) := by kernel_rfl
theorem c115_:compF Tryz.prog 115 = some (.mk (sr [gg 4 (.mov (xk .u32 0))] (sr [gm 6 0,gm 7 1,gg 8 (.call 112 [(.t 6),(.t 7)]),gm 5 8] (sr [gm 9 0,gm 10 0,gg 11 (.nil (.t 10)),gg 12 (.ffa (.t 11) 4),gg 13 (.ld (.t 12) none),gm 14 1,gg 15 (.bin .quo (.t 13) (.t 14)),gm 16 5,gm 17 5,gg 18 (.bin .add (.t 17) (xk .u32 1)),gm 19 1,gg 20 (.call 113 [(.t 9),(.t 15),(.t 16),(.t 18),(.t 19)])] (sr [gm 21 5,gm 4 21] .ret)))) 2 [(.t 4)]) := by kernel_rfl
theorem c116_:compF Tryz.prog 116 = some (.mk (sr [gg 4 (.mov (xk .u32 0))] (sr [gg 5 (.mov (xk .u32 0))] (.cut (sr [gg 6 (.mov (xk .u64 0))] (.block 0 (.loop (.seq (sr [gm 8 6,gm 9 1,gg 10 (.bin .lss (.t 8) (.t 9)),gm 11 10,gq 12 11 true (.mov (.t 6)),gq 13 11 true (.bin .lss (.t 12) (xk .u64 32)),gg 14 (.pick (.t 11) (.t 13) (.k (.bool false)))] (.cond (.t 14) .skip (.exit 0))) (.seq (.block 1 (.reg [gm 17 5,gm 18 0,gg 19 (.call 129 [(.t 18)]),gm 20 6,gg 21 (.bin .shl (.t 19) (.t 20)),gg 22 (.bin .or (.t 17) (.t 21)),gm 5 22])) (.reg [gm 15 6,gg 16 (.bin .add (.t 15) (xk .u64 1)),gm 6 16])))))) (.cut (sr [gg 7 (.mov (xk .u64 32))] (.block 2 (.loop (.seq (sr [gm 23 7,gm 24 1,gg 25 (.bin .lss (.t 23) (.t 24))] (.cond (.t 25) .skip (.exit 2))) (.seq (.block 3 (.reg [gm 28 0,gg 29 (.call 129 [(.t 28)])])) (.reg [gm 26 7,gg 27 (.bin .add (.t 26) (xk .u64 1)),gm 7 27])))))) (sr [gm 30 5,gm 4 30] .ret))))) 2 [(.t 4)]) := by kernel_rfl
theorem c117_:compF Tryz.prog 117 = some (.mk (sr [gg 4 (.mov (xk .u32 0))] (sr [gm 6 0,gg 7 (.bin .sub (xk .u32 32736) (.t 6)),gm 5 7] (sr [gm 8 5,gm 9 1,gg 10 (.bin .sub (xk .u32 16384) (.t 9)),gg 11 (.bin .mul (.t 8) (.t 10)),gg 12 (.bik .shr .u64 (.t 11) 15),gm 4 12] .ret))) 2 [(.t 4)]) := by kernel_rfl
theorem c129_:compF Tryz.prog 129 = some (.mk (sr [gg 2 (.mov (xk .u32 0))] (sr [gm 6 0,gg 7 (.nil (.t 6)),gg 8 (.ffa (.t 7) 2),gg 9 (.ld (.t 8) none),gg 10 (.bik .quo .u64 (.t 9) 8),gm 3 10] (sr [gm 11 0,gg 12 (.nil (.t 11)),gg 13 (.ffa (.t 12) 2),gg 14 (.ld (.t 13) none),gg 15 (.bik .rem .u64 (.t 14) 8),gm 4 15] (sr [gm 16 0,gg 17 (.nil (.t 16)),gg 18 (.ffa (.t 17) 2),gg 19 (.ld (.t 18) none),gg 20 (.bin .add (.t 19) (xk .u64 1)),gg 21 (.nil (.t 16)),gg 22 (.ffa (.t 21) 2),(G.mk none none (.st (.t 22) (.t 20) 1))] (sr [gm 23 0,gg 24 (.nil (.t 23)),gg 25 (.ffa (.t 24) 3),gg 26 (.ld (.t 25) none),gg 27 (.bin .add (.t 26) (xk .u64 1)),gg 28 (.nil (.t 23)),gg 29 (.ffa (.t 28) 3),(G.mk none none (.st (.t 29) (.t 27) 1))] (.cut (sr [gm 30 3,gm 31 0,gg 32 (.nil (.t 31)),gg 33 (.ffa (.t 32) 0),gg 34 (.ld (.t 33) none),gg 35 (.len false (.t 34)),gg 36 (.cvi .u64 (.t 35)),gg 37 (.bin .geq (.t 30) (.t 36))] (.cond (.t 37) (sr [gg 2 (.mov (xk .u32 0))] .ret) .skip)) (sr [gm 38 0,gg 39 (.nil (.t 38)),gg 40 (.ffa (.t 39) 0),gg 41 (.ld (.t 40) none),gg 42 (.len false (.t 41)),gg 43 (.bin .sub (.t 42) (xk .i64 1)),gm 44 3,gg 45 (.cvi .i64 (.t 44)),gg 46 (.bin .sub (.t 43) (.t 45)),gm 5 46] (sr [gm 47 0,gg 48 (.nil (.t 47)),gg 49 (.ffa (.t 48) 0),gg 50 (.ld (.t 49) none),gm 51 5,gg 52 (.ia (.t 50) (.t 51) 1),gg 53 (.ld (.t 52) none),gm 54 4,gg 55 (.bin .shr (.t 53) (.t 54)),gg 56 (.bin .and (.t 55) (xk .u8 1)),gg 57 (.cvi .u32 (.t 56)),gm 2 57] .ret)))))))) 1 [(.t 2)]) := by kernel_rfl
end Go.Proofs.YtokkphocaloelaaGreatDoor

end
