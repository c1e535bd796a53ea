/- Joined: RwLaid,RwPages,QgA,QgB,QgC,QgD,QgE,QgF,QgG,QgH,QgI,PgS,QgJ,PuN,PuO,PgQ,PgR,RmC,PgT,QgK,QgL. -/
import Derived.Test.YtokkphocaloelaaGreatDoorBE
section
namespace Go.Proofs.YtokkphocaloelaaGreatDoor
open Go Go.Vc
open Go.ChangeShapes Go.WideShapes Go.RowKit

theorem own:ownKnob Tryz.prog.godebug = none := by kernel_rfl
theorem laidOut:laidOutB Tryz.prog = true := by kernel_rfl
theorem gPow:Tryz.prog.globalNamed "internal/strconv.uint64pow10" = some 6 := by kernel_rfl
theorem tPow:(Tryz.prog.globals[6]?).map (·.type) = some 201 := by kernel_rfl
theorem cells64:Tryz.prog.cellsOf 39 = 1 := by kernel_rfl
theorem powsList:Rows.laid_internal_strconv_uint64pow10 (H := Unit) = .agg ((List.range 20).map fun i => .lit (.int .u64 ((10 ^ i:Nat):Int))) := by kernel_rfl
theorem pows_of {W:World} {r:List (String × DataW Unit)} (h:laidMet Tryz.prog (("internal/strconv.uint64pow10",Rows.laid_internal_strconv_uint64pow10) :: r) W):pows W := by
 obtain ⟨ps,⟨g0,t0,cs0,f0,p0,q0,hg0,ht0,hv0,hd0,_,e0⟩,_,hrows⟩ := h
 obtain rfl := Option.some.inj (gPow.symm.trans hg0)
 obtain rfl := Option.some.inj (tPow.symm.trans ht0)
 rw [powsList] at hd0
 obtain ⟨xs,m,_,hx,hl,hlen,hel⟩ := DataW.trod_array Tryz.underlying201 hd0
 intro i hi
 have h1 := hel i hi
 rw [cells64,Nat.mul_one] at h1
 obtain ⟨x,hxi⟩:∃ x,xs[i]? = some x := ⟨_,List.getElem?_eq_getElem (by omega)⟩
 rw [hxi] at h1
 obtain ⟨n,e1,e2,_⟩ := DataW.trod_int Tryz.underlying39 h1
 have e3:((List.range 20).map fun i => (DataW.lit (.int .u64 ((10 ^ i:Nat):Int)):DataW Unit)) = xs.map (·.1) := by
   have := (Prod.mk.inj hx).1
   exact DataW.agg.inj this
 have e4:(xs.map (·.1))[i]? = some x.1 := by rw [List.getElem?_map,hxi]; rfl
 rw [← e3,List.getElem?_map,List.getElem?_range hi] at e4
 have e5:(DataW.lit (.int .u64 ((10 ^ i:Nat):Int)):DataW Unit) = x.1 := Option.some.inj e4
 rw [e2] at e5
 have e6:((10 ^ i:Nat):Int) = n := by
   have := DataW.lit.inj e5
   injection this
 have hc := World.var?_cell gPow hv0 i
 show W.cell? ((Addr.mk 6 0 none).add (i * 1)) = _
 have ea:(Addr.mk 6 0 none).add (i * 1) = ⟨6,i,none⟩ := by
   simp only [Addr.add,Nat.mul_one,Nat.zero_add]
   split
   · rename_i c
     simp_all
   · rfl
 rw [ea,hc]
 have e7:cs0.toList[i]? = some (.int .u64 n) := by
   have h2:((cs0.toList.drop i).take 1)[0]? = some (.int .u64 n) := by rw [e1]; rfl
   rw [List.getElem?_take,if_pos (by omega),List.getElem?_drop,Nat.add_zero] at h2
   exact h2
 rw [← Array.getElem?_toList,e7,e6]
theorem cellsStr:Tryz.prog.cellsOf 9 = 1 := by kernel_rfl
theorem cellsES:Tryz.prog.cellsOf 243 = 1 := by kernel_rfl
theorem star : "*" ++ "errors.errorString" = "*errors.errorString" := by decide
theorem rowES (u:TypeId) (h:Tryz.prog.typeName? 3 u = some "*errors.errorString"):u = 227 :=
 typeName_ptr_named (nm := "errors.errorString") (by rw [star]; kernel_rfl) (by kernel_rfl) (by decide) u (by rw [star]; exact h)
structure ErrAt (W:World) (g:Nat) (text:List UInt8) (a:Addr):Prop where
 var:W.cell? (Addr.mk g 0 none) = some (.iface 227 (.pointer (some a)))
 txt:∃ s:ByteArray,W.cell? a = some (.string s) ∧ s.data.toList = text
 blk:∃ c t,W.heap[a.block]? = some (.cells c t (0,0))
theorem laid_errP {P:Program} {n nm:String} {text:List UInt8} {r:List (String × DataW Unit)} {W:World} {g:Nat} {ti tp te ts:TypeId} {ms:Array (String × TypeId)} {f:Field}
   (h:laidMet P ((n,.iface nm (.ptr (.agg [.lit (.string text)]))) :: r) W)
   (hg:P.globalNamed n = some g) (ht:(P.globals[g]?).map (·.type) = some ti) (hi:P.underlying ti = some (.interface ms)) (hrow:∀ u,P.typeName? 3 u = some nm → u = tp)
   (hp:P.underlying tp = some (.pointer te)) (he:P.underlying te = some (.struct #[f])) (hft:f.type = ts) (hfo:f.offset = 0) (hs:P.underlying ts = some .string) (hc:P.cellsOf te = 1) (hcs:P.cellsOf ts = 1) :
   ∃ (a:Addr) (s:ByteArray),W.var? P n = some #[.iface tp (.pointer (some a))] ∧ W.cell? a = some (.string s) ∧ s.data.toList = text ∧ ∃ c t,W.heap[a.block]? = some (.cells c t (0,0)) := by
 obtain ⟨ps,⟨g0,t0,cs0,f0,p0,q0,hg0,ht0,hv0,hd0,_,e0⟩,_,hrows⟩ := h
 obtain rfl := Option.some.inj (hg.symm.trans hg0)
 obtain rfl := Option.some.inj (ht.symm.trans ht0)
 subst e0
 obtain ⟨l0⟩ := cs0
 have ok0:∀ u v,l0 = [.iface u v] → Value.okWide P W .any 0 u v := fun u v e => by
   subst e
   exact (hrows g 0 (by simp [MemPlace.row])).2 u v (by simpa using World.var?_cell hg0 hv0 0)
 obtain ⟨a0,s0,rfl,hc0,hs0,hz0,rfl⟩ := errorString_of_trod hi hrow hp he hft hfo hs hc hcs hd0 ok0
 exact ⟨a0,s0,hv0,hc0,hs0,(hrows a0.block a0.off (by simp [MemPlace.row])).1⟩
theorem laid_err {n:String} {text:List UInt8} {r:List (String × DataW Unit)} {W:World} {g:Nat}
   (h:laidMet Tryz.prog ((n,.iface "*errors.errorString" (.ptr (.agg [.lit (.string text)]))) :: r) W)
   (hg:Tryz.prog.globalNamed n = some g) (ht:(Tryz.prog.globals[g]?).map (·.type) = some 71):∃ a,ErrAt W g text a := by
 obtain ⟨a,s,h1,h2,h3,h4⟩ := laid_errP h hg ht Tryz.underlying71 rowES Tryz.underlying227 Tryz.underlying243 rfl rfl Tryz.underlying9 cellsES cellsStr
 exact ⟨a,World.var?_cell hg h1 0,⟨s,h2,h3⟩,h4⟩
theorem esComp:(Tryz.prog.info? 227).map (·.comparable) = some true := by kernel_rfl
theorem esSize:(Tryz.prog.info? 243).map (·.size) = some 1 := by kernel_rfl
theorem eqES {W:World} {g g':Nat} {x y:List UInt8} {a b:Addr} (ha:ErrAt W g x a) (hb:ErrAt W g' y b) (hn:x ≠ y):ieqOf Tryz.prog W 71 (.iface 227 (.pointer (some a))) (.iface 227 (.pointer (some b))) false := by
 intro w hw
 have hne:a ≠ b := by
   rintro rfl
   obtain ⟨s,h1,h2⟩ := ha.txt
   obtain ⟨s',h3,h4⟩ := hb.txt
   rw [h1] at h3
   cases h3
   exact hn (h2.symm.trans h4)
 obtain ⟨c,t,hc⟩ := ha.blk
 obtain ⟨c',t',hc'⟩ := hb.blk
 have l1:a.block < W.heap.size := (Array.getElem?_eq_some_iff.1 hc).1
 have l2:b.block < W.heap.size := (Array.getElem?_eq_some_iff.1 hc').1
 obtain ⟨i,hi,hcmp⟩ := Option.map_eq_some_iff.1 esComp
 obtain ⟨j,hj,hsz⟩ := Option.map_eq_some_iff.1 esSize
 have := run_equalIn_iface_ptr_other (P := Tryz.prog) w 9998 Tryz.underlying71 Tryz.underlying227 hi hcmp hj (by rw [hsz]; decide) hne (ca := c) (ta := t) (cb := c') (tb := t') ((hw.block _ l1).trans hc) ((hw.block _ l2).trans hc')
 simpa [Op.equal,Op.maxDepth] using this
theorem sameES {W:World} (a:Addr):ieqOf Tryz.prog W 71 (.iface 227 (.pointer (some a))) (.iface 227 (.pointer (some a))) true := by
 intro w _
 obtain ⟨i,hi,hcmp⟩ := Option.map_eq_some_iff.1 esComp
 obtain ⟨j,hj,_⟩ := Option.map_eq_some_iff.1 esSize
 have := run_equalIn_iface_ptr_same (P := Tryz.prog) w 9998 a Tryz.underlying71 Tryz.underlying227 hi hcmp hj
 simpa [Op.equal,Op.maxDepth] using this
theorem nilES {W:World} (a:Addr):ieqOf Tryz.prog W 71 .nilIface (.iface 227 (.pointer (some a))) false := by
 intro w _
 have h:∀ d:Nat,(Op.equalIn (d + 1) 71 .nilIface (.iface 227 (.pointer (some a)))).run Tryz.prog w = .ok false w := fun d => by simp [Op.equalIn,run_underlying Tryz.underlying71]
 simpa [Op.equal,Op.maxDepth] using h 9999
theorem errs_of {W:World} {a0 a1 a2 a4 a5 a7 a8 a9 a10 a11:Addr} {x0 x1 x2 x4 x5 x7 x8 x9 x10 x11:List UInt8} (h0:ErrAt W 0 x0 a0) (h1:ErrAt W 1 x1 a1) (h2:ErrAt W 2 x2 a2) (h4:ErrAt W 4 x4 a4) (h5:ErrAt W 5 x5 a5)
   (h7:ErrAt W 7 x7 a7) (h8:ErrAt W 8 x8 a8) (h9:ErrAt W 9 x9 a9) (h10:ErrAt W 10 x10 a10) (h11:ErrAt W 11 x11 a11) (hx:∀ x ∈ [x1,x2,x4,x5,x7,x8,x9,x10,x11],x ≠ x0):∃ v,Errs W 227 v := by
 refine ⟨fun k => .pointer (some (match k with | 0 => a0 | 1 => a1 | 2 => a2 | 4 => a4 | 5 => a5 | 7 => a7 | 8 => a8 | 9 => a9 | 10 => a10 | _ => a11)),fun k hk h3 h6 => ?_,fun k hk h3 h6 => ?_,nilES a0⟩
 · have:k = 0 ∨ k = 1 ∨ k = 2 ∨ k = 4 ∨ k = 5 ∨ k = 7 ∨ k = 8 ∨ k = 9 ∨ k = 10 ∨ k = 11 := by omega
   rcases this with rfl | rfl | rfl | rfl | rfl | rfl | rfl | rfl | rfl | rfl
   · exact h0.var
   · exact h1.var
   · exact h2.var
   · exact h4.var
   · exact h5.var
   · exact h7.var
   · exact h8.var
   · exact h9.var
   · exact h10.var
   · exact h11.var
 · have:k = 0 ∨ k = 1 ∨ k = 2 ∨ k = 4 ∨ k = 5 ∨ k = 7 ∨ k = 8 ∨ k = 9 ∨ k = 10 ∨ k = 11 := by omega
   rcases this with rfl | rfl | rfl | rfl | rfl | rfl | rfl | rfl | rfl | rfl
   · exact sameES a0
   · exact eqES h1 h0 (hx _ (by simp))
   · exact eqES h2 h0 (hx _ (by simp))
   · exact eqES h4 h0 (hx _ (by simp))
   · exact eqES h5 h0 (hx _ (by simp))
   · exact eqES h7 h0 (hx _ (by simp))
   · exact eqES h8 h0 (hx _ (by simp))
   · exact eqES h9 h0 (hx _ (by simp))
   · exact eqES h10 h0 (hx _ (by simp))
   · exact eqES h11 h0 (hx _ (by simp))
theorem g0:Tryz.prog.globalNamed "io.EOF" = some 0 := by kernel_rfl
theorem g1:Tryz.prog.globalNamed "io.ErrUnexpectedEOF" = some 1 := by kernel_rfl
theorem g2:Tryz.prog.globalNamed "pub-carronade/pub/opus/pkg/oggreader.errShortPageHeader" = some 2 := by kernel_rfl
theorem g4:Tryz.prog.globalNamed "pub-carronade/pub/opus/pkg/oggreader.errNilStream" = some 4 := by kernel_rfl
theorem g5:Tryz.prog.globalNamed "pub-carronade/pub/opus/pkg/oggreader.errChecksumMismatch" = some 5 := by kernel_rfl
theorem g7:Tryz.prog.globalNamed "io.ErrShortBuffer" = some 7 := by kernel_rfl
theorem g8:Tryz.prog.globalNamed "pub-carronade/pub/opus/pkg/oggreader.errBadIDPageSignature" = some 8 := by kernel_rfl
theorem g9:Tryz.prog.globalNamed "pub-carronade/pub/opus/pkg/oggreader.errBadIDPageType" = some 9 := by kernel_rfl
theorem g10:Tryz.prog.globalNamed "pub-carronade/pub/opus/pkg/oggreader.errBadIDPageLength" = some 10 := by kernel_rfl
theorem g11:Tryz.prog.globalNamed "pub-carronade/pub/opus/pkg/oggreader.errBadIDPagePayloadSignature" = some 11 := by kernel_rfl
theorem tg:∀ k ∈ [0,1,2,4,5,7,8,9,10,11],(Tryz.prog.globals[k]?).map (·.type) = some 71 := by
 intro k hk
 simp only [List.mem_cons,List.not_mem_nil,or_false] at hk
 rcases hk with rfl | rfl | rfl | rfl | rfl | rfl | rfl | rfl | rfl | rfl <;> kernel_rfl
def laidErrs (r:List (String × DataW Unit)):List (String × DataW Unit) := ("io.ErrShortBuffer",Rows.laid_io_ErrShortBuffer) :: ("io.EOF",Rows.laid_io_EOF) :: ("io.ErrUnexpectedEOF",Rows.laid_io_ErrUnexpectedEOF) :: ("pub-carronade/pub/opus/pkg/oggreader.errNilStream",Rows.laid_pub_carronade_pub_opus_pkg_oggreader_errNilStream) :: ("pub-carronade/pub/opus/pkg/oggreader.errBadIDPageSignature",Rows.laid_pub_carronade_pub_opus_pkg_oggreader_errBadIDPageSignature) :: ("pub-carronade/pub/opus/pkg/oggreader.errBadIDPageType",Rows.laid_pub_carronade_pub_opus_pkg_oggreader_errBadIDPageType) :: ("pub-carronade/pub/opus/pkg/oggreader.errBadIDPageLength",Rows.laid_pub_carronade_pub_opus_pkg_oggreader_errBadIDPageLength) :: ("pub-carronade/pub/opus/pkg/oggreader.errBadIDPagePayloadSignature",Rows.laid_pub_carronade_pub_opus_pkg_oggreader_errBadIDPagePayloadSignature) :: ("pub-carronade/pub/opus/pkg/oggreader.errShortPageHeader",Rows.laid_pub_carronade_pub_opus_pkg_oggreader_errShortPageHeader) :: ("pub-carronade/pub/opus/pkg/oggreader.errChecksumMismatch",Rows.laid_pub_carronade_pub_opus_pkg_oggreader_errChecksumMismatch) :: r
theorem errs_of_laid {W:World} {r:List (String × DataW Unit)} (h:laidMet Tryz.prog (laidErrs r) W):∃ v,Errs W 227 v := by
 obtain ⟨a7,e7⟩ := laid_err h g7 (tg 7 (by simp))
 have h := h.tail
 obtain ⟨a0,e0⟩ := laid_err h g0 (tg 0 (by simp))
 have h := h.tail
 obtain ⟨a1,e1⟩ := laid_err h g1 (tg 1 (by simp))
 have h := h.tail
 obtain ⟨a4,e4⟩ := laid_err h g4 (tg 4 (by simp))
 have h := h.tail
 obtain ⟨a8,e8⟩ := laid_err h g8 (tg 8 (by simp))
 have h := h.tail
 obtain ⟨a9,e9⟩ := laid_err h g9 (tg 9 (by simp))
 have h := h.tail
 obtain ⟨a10,e10⟩ := laid_err h g10 (tg 10 (by simp))
 have h := h.tail
 obtain ⟨a11,e11⟩ := laid_err h g11 (tg 11 (by simp))
 have h := h.tail
 obtain ⟨a2,e2⟩ := laid_err h g2 (tg 2 (by simp))
 have h := h.tail
 obtain ⟨a5,e5⟩ := laid_err h g5 (tg 5 (by simp))
 exact errs_of e0 e1 e2 e4 e5 e7 e8 e9 e10 e11 (by decide)
def laidO:List (String × DataW Unit) := ("math/bits.deBruijn32tab",Rows.laid_math_bits_deBruijn32tab) :: ("math/bits.deBruijn64tab",Rows.laid_math_bits_deBruijn64tab) :: ("internal/strconv.uint64pow10",Rows.laid_internal_strconv_uint64pow10) :: laidErrs []
theorem metO {W:World} (h:laidMetH Tryz.prog laidO W):pows W ∧ ∃ v,Errs W 227 v := by
 rw [MakeChecks.laidMetH_plain _ _ _ (by kernel_rfl)] at h
 have h := h.tail.tail
 exact ⟨pows_of h,errs_of_laid h.tail⟩
theorem doorO (os:Os) (args:Array Value):laidMetH Tryz.prog laidO ((World.doorLaid Tryz.prog 400 os).forCall (fun _ _ => 0) ⟨#[],args,[]⟩).memory :=
 laidMetH_of_parts3 (fuel := 8) (laidMet_of_run' 8 (by kernel_rfl) (by kernel_rfl)) (by kernel_rfl) (by kernel_rfl)
end Go.Proofs.YtokkphocaloelaaGreatDoor

end
section
namespace Go.Proofs.YtokkphocaloelaaGreatDoor
open Go Go.Vc Go.Deep
set_option maxRecDepth 100000

theorem wf_u32' {n:Int} (h:(Lit.int .u32 n).wf = true):∃ m:Nat,n = m ∧ m < 4294967296 := by
 simp only [Lit.wf,Bool.and_eq_true,decide_eq_true_eq] at h
 have h1:0 ≤ n := h.1
 have h2:n ≤ 4294967295 := h.2
 exact ⟨n.toNat,by omega,by omega⟩
theorem wf_u64' {n:Int} (h:(Lit.int .u64 n).wf = true):∃ m:Nat,n = m ∧ m < 18446744073709551616 := by
 simp only [Lit.wf,Bool.and_eq_true,decide_eq_true_eq] at h
 have h1:0 ≤ n := h.1
 have h2:n ≤ 18446744073709551615 := h.2
 exact ⟨n.toNat,by omega,by omega⟩
theorem wf_i64' {n:Int} (h:(Lit.int .i64 n).wf = true):-9223372036854775808 ≤ n ∧ n < 9223372036854775808 := by
 simp only [Lit.wf,Bool.and_eq_true,decide_eq_true_eq] at h
 have h1:-9223372036854775808 ≤ n := h.1
 have h2:n ≤ 9223372036854775807 := h.2
 omega
theorem list6 {α:Type} {l:List α} (h:l.length = 6):∃ a b c d e f,l = [a,b,c,d,e,f] := by
 match l,h with
 | [a,b,c,d,e,f],_ => exact ⟨a,b,c,d,e,f,rfl⟩
theorem list10 {α:Type} {l:List α} (h:l.length = 10):∃ a b c d e f g i j k,l = [a,b,c,d,e,f,g,i,j,k] := by
 match l,h with
 | [a,b,c,d,e,f,g,i,j,k],_ => exact ⟨a,b,c,d,e,f,g,i,j,k,rfl⟩
theorem bulk_strs {H:Type} (ss:List ByteArray):Rows.uptoBulkAll (ChangeShapes.strs (H := H) ss) = ss.length + psz ss := by
 induction ss with
 | nil => rfl
 | cons s r ih =>
   show Rows.uptoBulk (DataW.lit (.string s.data.toList)) + Rows.uptoBulkAll (ChangeShapes.strs r) = _
   rw [ih,psz]
   simp only [Rows.uptoBulk,List.length_cons]
   have:s.data.toList.length = s.size := Array.length_toList
   omega
theorem cl3:Tryz.prog.cellsOf 3 = 1 := by kernel_rfl
theorem cl4:Tryz.prog.cellsOf 4 = 1 := by kernel_rfl
theorem cl22:Tryz.prog.cellsOf 22 = 1 := by kernel_rfl
theorem cl39:Tryz.prog.cellsOf 39 = 1 := by kernel_rfl
theorem cl9:Tryz.prog.cellsOf 9 = 1 := by kernel_rfl
theorem cl31:Tryz.prog.cellsOf 31 = 1 := by kernel_rfl
theorem cl23:Tryz.prog.cellsOf 23 = 1 := by kernel_rfl
theorem cl57:Tryz.prog.cellsOf 57 = 6 := by kernel_rfl
theorem cl25:Tryz.prog.cellsOf 25 = 10 := by kernel_rfl
section
variable {H:Type} {enc:TypeId × Value → H} {w:World} {base:Nat} {spare:Nat → Bool} {held:Bool}
theorem opened_strs {n:Nat} {cs:List Value} {x:DataW H × List MemPlace} (h:DataW.trod enc Tryz.prog w base spare held n 31 cs = some x) :
   ∃ v ss,cs = [v] ∧ strsAt w v ss ∧ v.oneCell' = true ∧ ss.length + psz ss + 1 ≤ Rows.uptoBulk x.1 := by
 rcases Go.ChangeShapes.open_strings Tryz.underlying31 Tryz.underlying9 cl9 h with ⟨hcs,rfl⟩ | ⟨a,len,cap,ss,hcs,_,hlc,hm,hz,rfl,hcell,_⟩
 · exact ⟨_,[],hcs,Or.inl ⟨rfl,rfl⟩,rfl,by simp [Rows.uptoBulk,psz]⟩
 · have hln:len ≤ ss.length := by rw [hz]; split <;> omega
   have htl:(ss.take len).length = len := by rw [List.length_take]; omega
   refine ⟨_,ss.take len,hcs,Or.inr ⟨a,cap,by rw [htl],by omega,fun i s hi => ?_⟩,rfl,?_⟩
   · have hil:i < len := by
       have := (List.getElem?_eq_some_iff.1 hi).1
       omega
     rw [List.getElem?_take,if_pos hil] at hi
     rw [Nat.mul_one,hcell i (by omega),List.getD_eq_getElem?_getD,hi]
     rfl
   · simp only [Rows.uptoBulk]
     rw [bulk_strs]
     omega
theorem opened_page {n:Nat} {cs:List Value} {x:DataW H × List MemPlace} (h:DataW.trod enc Tryz.prog w base spare held n 57 cs = some x) :
   ∃ (p:Pg) (v:Value),cs = [.int .u32 p.ser,.int .u32 p.seq,.int .u64 p.gran,.int .i64 p.flags,v,.bool p.more] ∧ v.oneCell' = true ∧ strsAt w v p.parts ∧
     (p.ser < 4294967296 ∧ p.seq < 4294967296 ∧ p.gran < 18446744073709551616 ∧ -9223372036854775808 ≤ p.flags ∧ p.flags < 9223372036854775808) ∧ p.wt ≤ 4 * Rows.uptoBulk x.1 := by
 obtain ⟨xs,m,rfl,rfl,hl,hlen,hf⟩ := DataW.trod_struct Tryz.underlying57 h
 rw [cl57] at hl
 obtain ⟨c0,c1,c2,c3,c4,c5,rfl⟩ := list6 hl
 obtain ⟨y0,y1,y2,y3,y4,y5,rfl⟩ := list6 (l := xs) hlen
 have h0:DataW.trod enc Tryz.prog w base spare held m 22 (([c0,c1,c2,c3,c4,c5].drop 0).take (Tryz.prog.cellsOf 22)) = [y0,y1,y2,y3,y4,y5][0]? := hf 0 _ rfl
 have h1:DataW.trod enc Tryz.prog w base spare held m 22 (([c0,c1,c2,c3,c4,c5].drop 1).take (Tryz.prog.cellsOf 22)) = [y0,y1,y2,y3,y4,y5][1]? := hf 1 _ rfl
 have h2:DataW.trod enc Tryz.prog w base spare held m 39 (([c0,c1,c2,c3,c4,c5].drop 2).take (Tryz.prog.cellsOf 39)) = [y0,y1,y2,y3,y4,y5][2]? := hf 2 _ rfl
 have h3:DataW.trod enc Tryz.prog w base spare held m 3 (([c0,c1,c2,c3,c4,c5].drop 3).take (Tryz.prog.cellsOf 3)) = [y0,y1,y2,y3,y4,y5][3]? := hf 3 _ rfl
 have h4:DataW.trod enc Tryz.prog w base spare held m 31 (([c0,c1,c2,c3,c4,c5].drop 4).take (Tryz.prog.cellsOf 31)) = [y0,y1,y2,y3,y4,y5][4]? := hf 4 _ rfl
 have h5:DataW.trod enc Tryz.prog w base spare held m 4 (([c0,c1,c2,c3,c4,c5].drop 5).take (Tryz.prog.cellsOf 4)) = [y0,y1,y2,y3,y4,y5][5]? := hf 5 _ rfl
 rw [cl22] at h0 h1
 rw [cl39] at h2
 rw [cl3] at h3
 rw [cl31] at h4
 rw [cl4] at h5
 obtain ⟨n0,q0,r0,w0⟩ := DataW.trod_int Tryz.underlying22 h0
 obtain ⟨n1,q1,r1,w1⟩ := DataW.trod_int Tryz.underlying22 h1
 obtain ⟨n2,q2,r2,w2⟩ := DataW.trod_int Tryz.underlying39 h2
 obtain ⟨n3,q3,r3,w3⟩ := DataW.trod_int Tryz.underlying3 h3
 obtain ⟨v,ss,q4,hs,ho,hbk⟩ := opened_strs h4
 obtain ⟨n5,q5,r5⟩ := DataW.trod_bool Tryz.underlying4 h5
 obtain rfl:c0 = _ := (List.cons.inj q0).1
 obtain rfl:c1 = _ := (List.cons.inj q1).1
 obtain rfl:c2 = _ := (List.cons.inj q2).1
 obtain rfl:c3 = _ := (List.cons.inj q3).1
 obtain rfl:c4 = _ := (List.cons.inj q4).1
 obtain rfl:c5 = _ := (List.cons.inj q5).1
 obtain ⟨m0,rfl,l0⟩ := wf_u32' w0
 obtain ⟨m1,rfl,l1⟩ := wf_u32' w1
 obtain ⟨m2,rfl,l2⟩ := wf_u64' w2
 have i3 := wf_i64' w3
 refine ⟨⟨m0,m1,m2,n3,ss,n5⟩,c4,rfl,ho,hs,⟨l0,l1,l2,i3.1,i3.2⟩,?_⟩
 subst r0 r1 r2 r3 r5
 simp only [Rows.uptoBulk,Rows.uptoBulkAll,List.map_cons,List.map_nil]
 show 27 + ss.length + psz ss ≤ _
 omega
theorem wts_bulk {f:Nat → Pg × Value} {D:Nat → DataW H}:∀ (l:List Nat),(∀ i ∈ l,(f i).1.wt ≤ 4 * Rows.uptoBulk (D i)) → wts ((l.map f).map Prod.fst) ≤ 4 * Rows.uptoBulkAll (l.map D)
 | [],_ => Nat.zero_le _
 | i :: r,h => by
   have h1 := h i (List.mem_cons_self ..)
   have h2 := wts_bulk r fun j hj => h j (List.mem_cons_of_mem _ hj)
   show (f i).1.wt + wts ((r.map f).map Prod.fst) ≤ 4 * (Rows.uptoBulk (D i) + Rows.uptoBulkAll (r.map D))
   omega
theorem opened_pages {n:Nat} {cs:List Value} {x:DataW H × List MemPlace} (h:DataW.trod enc Tryz.prog w base spare held n 26 cs = some x) :
   ∃ v xs,cs = [v] ∧ pgsAt w v xs ∧ wtx xs ≤ 4 * Rows.uptoBulk x.1 := by
 rcases open_slice Tryz.underlying26 h with ⟨rfl,rfl⟩ | ⟨a,len,cap,m,k,D,Pl,rfl,_,hl,hm,hmm,rfl,hel⟩
 · exact ⟨_,[],rfl,Or.inl ⟨rfl,rfl⟩,Nat.zero_le _⟩
 · have hle:len ≤ m := by rw [hmm]; split <;> omega
   have hget:∀ i,i < len → ∃ x:Pg × Value,pgCells w (a.add (i * 6)) x.1 x.2 ∧ x.1.wt ≤ 4 * Rows.uptoBulk (D i) := by
     intro i hi
     obtain ⟨cs',hc,ht⟩ := hel i (by omega)
     obtain ⟨p,v,rfl,ho,hs,hfit,hw⟩ := opened_page ht
     rw [cl57] at hc
     obtain ⟨_,_,hcc⟩ := World.cells?_some hc
     exact ⟨(p,v),⟨hcc 0 (by simp),hcc 1 (by simp),hcc 2 (by simp),hcc 3 (by simp),hcc 4 (by simp),hcc 5 (by simp),ho,hs,hfit⟩,hw⟩
   have:Inhabited (Pg × Value) := ⟨(⟨0,0,0,0,[],false⟩,.slice none 0 0)⟩
   obtain ⟨f,hf⟩ := choose_lt hget
   refine ⟨_,(List.range len).map f,rfl,Or.inr ⟨a,cap,?_,?_,?_⟩,?_⟩
   · rw [List.length_map,List.length_range]
   · rw [List.length_map,List.length_range]
     exact hl
   · intro i x hx
     rw [List.getElem?_map] at hx
     rcases Nat.lt_or_ge i len with hi | hi
     · rw [List.getElem?_range hi] at hx
       simp only [Option.map_some,Option.some.injEq] at hx
       subst hx
       exact (hf i hi).1
     · rw [List.getElem?_eq_none (by simpa using hi)] at hx
       cases hx
   · have h1 := wts_bulk (f := f) (D := D) (List.range len) fun i hi => (hf i (List.mem_range.1 hi)).2
     unfold wtx
     simp only [Rows.uptoBulk]
     omega
theorem opened_head {n:Nat} {cs:List Value} {x:DataW H × List MemPlace} (h:DataW.trod enc Tryz.prog w base spare held n 25 cs = some x) :
   ∃ (hd:Hd) (ma:Option Addr) (mn mc:Nat),cs = [.int .i64 hd.ver,.int .i64 hd.ch,.int .i64 hd.map,.int .i64 hd.skip,.int .i64 hd.gain,.int .u32 hd.rate,.int .i64 hd.str,.int .i64 hd.cou,.string hd.mapping,.slice ma mn mc] ∧
     hd.rate < 4294967296 ∧ (∀ x ∈ [hd.ver,hd.ch,hd.map,hd.skip,hd.gain,hd.str,hd.cou],-9223372036854775808 ≤ x ∧ x < 9223372036854775808) ∧ hd.mapping.size ≤ maxLen := by
 obtain ⟨xs,m,rfl,rfl,hl,hlen,hf⟩ := DataW.trod_struct Tryz.underlying25 h
 rw [cl25] at hl
 obtain ⟨c0,c1,c2,c3,c4,c5,c6,c7,c8,c9,rfl⟩ := list10 hl
 obtain ⟨y0,y1,y2,y3,y4,y5,y6,y7,y8,y9,rfl⟩ := list10 (l := xs) hlen
 have h0:DataW.trod enc Tryz.prog w base spare held m 3 (([c0,c1,c2,c3,c4,c5,c6,c7,c8,c9].drop 0).take (Tryz.prog.cellsOf 3)) = [y0,y1,y2,y3,y4,y5,y6,y7,y8,y9][0]? := hf 0 _ rfl
 have h1:DataW.trod enc Tryz.prog w base spare held m 3 (([c0,c1,c2,c3,c4,c5,c6,c7,c8,c9].drop 1).take (Tryz.prog.cellsOf 3)) = [y0,y1,y2,y3,y4,y5,y6,y7,y8,y9][1]? := hf 1 _ rfl
 have h2:DataW.trod enc Tryz.prog w base spare held m 3 (([c0,c1,c2,c3,c4,c5,c6,c7,c8,c9].drop 2).take (Tryz.prog.cellsOf 3)) = [y0,y1,y2,y3,y4,y5,y6,y7,y8,y9][2]? := hf 2 _ rfl
 have h3:DataW.trod enc Tryz.prog w base spare held m 3 (([c0,c1,c2,c3,c4,c5,c6,c7,c8,c9].drop 3).take (Tryz.prog.cellsOf 3)) = [y0,y1,y2,y3,y4,y5,y6,y7,y8,y9][3]? := hf 3 _ rfl
 have h4:DataW.trod enc Tryz.prog w base spare held m 3 (([c0,c1,c2,c3,c4,c5,c6,c7,c8,c9].drop 4).take (Tryz.prog.cellsOf 3)) = [y0,y1,y2,y3,y4,y5,y6,y7,y8,y9][4]? := hf 4 _ rfl
 have h5:DataW.trod enc Tryz.prog w base spare held m 22 (([c0,c1,c2,c3,c4,c5,c6,c7,c8,c9].drop 5).take (Tryz.prog.cellsOf 22)) = [y0,y1,y2,y3,y4,y5,y6,y7,y8,y9][5]? := hf 5 _ rfl
 have h6:DataW.trod enc Tryz.prog w base spare held m 3 (([c0,c1,c2,c3,c4,c5,c6,c7,c8,c9].drop 6).take (Tryz.prog.cellsOf 3)) = [y0,y1,y2,y3,y4,y5,y6,y7,y8,y9][6]? := hf 6 _ rfl
 have h7:DataW.trod enc Tryz.prog w base spare held m 3 (([c0,c1,c2,c3,c4,c5,c6,c7,c8,c9].drop 7).take (Tryz.prog.cellsOf 3)) = [y0,y1,y2,y3,y4,y5,y6,y7,y8,y9][7]? := hf 7 _ rfl
 have h8:DataW.trod enc Tryz.prog w base spare held m 9 (([c0,c1,c2,c3,c4,c5,c6,c7,c8,c9].drop 8).take (Tryz.prog.cellsOf 9)) = [y0,y1,y2,y3,y4,y5,y6,y7,y8,y9][8]? := hf 8 _ rfl
 have h9:DataW.trod enc Tryz.prog w base spare held m 23 (([c0,c1,c2,c3,c4,c5,c6,c7,c8,c9].drop 9).take (Tryz.prog.cellsOf 23)) = [y0,y1,y2,y3,y4,y5,y6,y7,y8,y9][9]? := hf 9 _ rfl
 rw [cl3] at h0 h1 h2 h3 h4 h6 h7
 rw [cl22] at h5
 rw [cl9] at h8
 rw [cl23] at h9
 obtain ⟨n0,q0,_,w0⟩ := DataW.trod_int Tryz.underlying3 h0
 obtain ⟨n1,q1,_,w1⟩ := DataW.trod_int Tryz.underlying3 h1
 obtain ⟨n2,q2,_,w2⟩ := DataW.trod_int Tryz.underlying3 h2
 obtain ⟨n3,q3,_,w3⟩ := DataW.trod_int Tryz.underlying3 h3
 obtain ⟨n4,q4,_,w4⟩ := DataW.trod_int Tryz.underlying3 h4
 obtain ⟨n5,q5,_,w5⟩ := DataW.trod_int Tryz.underlying22 h5
 obtain ⟨n6,q6,_,w6⟩ := DataW.trod_int Tryz.underlying3 h6
 obtain ⟨n7,q7,_,w7⟩ := DataW.trod_int Tryz.underlying3 h7
 obtain ⟨s8,q8,_,z8⟩ := DataW.trod_string Tryz.underlying9 h8
 obtain ⟨m5,rfl,l5⟩ := wf_u32' w5
 obtain rfl:c0 = _ := (List.cons.inj q0).1
 obtain rfl:c1 = _ := (List.cons.inj q1).1
 obtain rfl:c2 = _ := (List.cons.inj q2).1
 obtain rfl:c3 = _ := (List.cons.inj q3).1
 obtain rfl:c4 = _ := (List.cons.inj q4).1
 obtain rfl:c5 = _ := (List.cons.inj q5).1
 obtain rfl:c6 = _ := (List.cons.inj q6).1
 obtain rfl:c7 = _ := (List.cons.inj q7).1
 obtain rfl:c8 = _ := (List.cons.inj q8).1
 have hb:∀ x ∈ [n0,n1,n2,n3,n4,n6,n7],-9223372036854775808 ≤ x ∧ x < 9223372036854775808 := by
   intro x hx
   simp only [List.mem_cons,List.not_mem_nil,or_false] at hx
   rcases hx with rfl | rfl | rfl | rfl | rfl | rfl | rfl
   · exact wf_i64' w0
   · exact wf_i64' w1
   · exact wf_i64' w2
   · exact wf_i64' w3
   · exact wf_i64' w4
   · exact wf_i64' w6
   · exact wf_i64' w7
 rcases open_slice Tryz.underlying23 h9 with ⟨hcs,_⟩ | ⟨a,len,cap,_,_,_,_,hcs,_⟩
 · obtain rfl:c9 = _ := (List.cons.inj hcs).1
   exact ⟨⟨n0,n1,n2,n3,n4,m5,n6,n7,s8⟩,none,0,0,rfl,l5,hb,z8⟩
 · obtain rfl:c9 = _ := (List.cons.inj hcs).1
   exact ⟨⟨n0,n1,n2,n3,n4,m5,n6,n7,s8⟩,some a,len,cap,rfl,l5,hb,z8⟩
end
end Go.Proofs.YtokkphocaloelaaGreatDoor

end
section
namespace Go.Proofs.YtokkphocaloelaaGreatDoor
open Go Go.Vc
set_option maxRecDepth 100000
set_option maxHeartbeats 8000000

def encE:Enc (Option (Nat × Nat)) := ⟨fun bs x => match bs,x with
 | [a,b],some (k,n) => [.mem a k n,.mrow b k 10 0 0]
 | _,_ => [.any,.any],fun σ bs bs' x hl hk => by
 match bs,bs',hl,x with
 | [],[],_,_ => rfl
 | [a],[a'],_,_ => rfl
 | [a,b],[a',b'],_,none => rfl
 | [a,b],[a',b'],_,some (k,n) =>
   have h0 := hk 0 (by simp)
   have h1 := hk 1 (by simp)
   simp only [List.getD_cons_zero,List.getD_cons_succ] at h0 h1
   simp only [List.map_cons,CV.ren,h0,h1,List.map_nil]
 | a :: b :: c :: r,a' :: b' :: c' :: r',_,_ => rfl⟩
theorem encE_len (bs:List Nat) (x:Option (Nat × Nat)):(encE.f bs x).length = 2 := by
 match bs,x with
 | [],_ => rfl
 | [a],_ => rfl
 | [a,b],none => rfl
 | [a,b],some (k,n) => rfl
 | a :: b :: c :: r,_ => rfl
def encH:Enc (List Int) := ⟨fun _ h => [.val (.int .u64 ((le ((h.drop 6).take 8):Nat):Int)),u8 h 0,u8 h 1,u8 h 2,u8 h 3,u8 h 4,u8 h 5,.val (.int .u32 ((le ((h.drop 14).take 4):Nat):Int)),.val (.int .u32 ((le ((h.drop 18).take 4):Nat):Int)),u8 h 26],fun _ _ _ _ _ _ => rfl⟩
def fhB (hs:List (List Int)):Blk := .fam 80 encH 10 (hs.map fun h => [h])
def quQ (a b:Nat) (zs:List (Option (Nat × Nat))):Blk := .vec true 127 encE [a,b] 2 zs
theorem flat_encE (a b:Nat) (zs:List (Option (Nat × Nat))):flat encE [a,b] zs = zs.flatMap fun x => match x with | some (k,n) => [CV.mem a k n,.mrow b k 10 0 0] | none => [.any,.any] := by
 unfold flat
 congr 1
 funext x
 cases x with
 | none => rfl
 | some x => rfl
theorem tau_encE {f i nf J a b a' b':Nat} (h:∀ k n,tau f i nf J (.mem a k n) = .mem a' k n) (h2:∀ k,tau f i nf J (.mrow b k 10 0 0) = .mrow b' k 10 0 0) (zs:List (Option (Nat × Nat))):flat encE [a',b'] zs = (flat encE [a,b] zs).map (tau f i nf J) := by
 rw [flat_encE,flat_encE,List.map_flatMap]
 congr 1
 funext x
 cases x with
 | none => rfl
 | some x =>
   obtain ⟨k,n⟩ := x
   simp only [List.map_cons,List.map_nil,h,h2]
theorem reC.keep {i nf wd b:Nat} {k:Blk} (h:b ≠ i):reC i nf wd b k k := .inr ⟨h,.inl rfl⟩
theorem reC.dead {i nf wd b:Nat} {k:Blk}:reC i nf wd b k .dead := .inl rfl
theorem reC.cells {i nf wd b:Nat} {T:TypeId} {cs cs1:List CV} (h:b ≠ i) (h1:cs.map (theta i nf wd) = cs1):reC i nf wd b (.cells T cs) (.cells T cs1) := .inr ⟨h,.inr ⟨T,cs,rfl,by rw [h1]⟩⟩
structure Qt where
 all:List (List Int × List Int)
 zs:List (Option (Nat × Nat))
 o:Nat
 n:Nat
 p:Nat
def idx (all:List (List Int × List Int)):List (Option (Nat × Nat)) := all.zipIdx.map fun x => some (x.2,x.1.1.length)
theorem idx_len (all:List (List Int × List Int)):(idx all).length = all.length := by simp [idx]
theorem idx_get (all:List (List Int × List Int)) (i:Nat):(idx all)[i]? = all[i]?.map fun x => some (i,x.1.length) := by
 unfold idx
 rw [List.getElem?_map,List.getElem?_zipIdx]
 cases all[i]? <;> simp
theorem idx_snoc (all:List (List Int × List Int)) (a:List Int × List Int):idx (all ++ [a]) = idx all ++ [some (all.length,a.1.length)] := by simp [idx,List.zipIdx_append]
structure Qt.ok (q:Qt):Prop where
 len:q.o + q.n = q.zs.length
 le:q.o + q.n ≤ q.all.length + 1
 nl:q.n ≤ q.all.length
 dr:q.zs.drop q.o = (idx q.all).drop (q.all.length - q.n)
def Qt.D (q:Qt):Blk := segB (q.all.map fun x => x.1)
def Qt.H (q:Qt):Blk := fhB (q.all.map fun x => x.2)
def Qt.Q (q:Qt) (a b:Nat):Blk := quQ a b q.zs
def Qt.q (q:Qt):Qs := .tl q.o q.n q.p
theorem Qt.put {q:Qt} (hq:q.ok) {X h:List Int} {zs:List (Option (Nat × Nat))} {o:Nat} (p:Nat) (h1:o ≤ q.o) (h2:zs.drop o = q.zs.drop q.o ++ [some (q.all.length,X.length)]) (h3:o + (q.n + 1) = zs.length):(Qt.mk (q.all ++ [(X,h)]) zs o (q.n + 1) p).ok := by
 have hle := hq.le
 have hnl := hq.nl
 have e:(q.all ++ [(X,h)]).length = q.all.length + 1 := by simp
 refine ⟨h3,by show o + (q.n + 1) ≤ (q.all ++ [(X,h)]).length + 1; omega,by show q.n + 1 ≤ (q.all ++ [(X,h)]).length; omega,?_⟩
 · simp only [List.length_append,List.length_cons,List.length_nil]
   rw [h2,hq.dr,idx_snoc,List.drop_append_of_le_length (by rw [idx_len]; omega)]
   congr 2
   omega
theorem Qt.pop {q:Qt} (hq:q.ok) {m:Nat} (hm:q.n = m + 1):∃ x h,q.all[q.all.length - q.n]? = some (x,h) ∧ q.zs[q.o]? = some (some (q.all.length - q.n,x.length)) ∧ ∀ p,(Qt.mk q.all q.zs (q.o + 1) m p).ok := by
 have hle := hq.le
 have hnl := hq.nl
 have hlen := hq.len
 obtain ⟨a,ha⟩:∃ a,q.all[q.all.length - q.n]? = some a := ⟨_,List.getElem?_eq_getElem (by omega)⟩
 refine ⟨a.1,a.2,ha,?_,fun p => ⟨?_,?_,?_,?_⟩⟩
 · have := congrArg (fun l => l[0]?) hq.dr
   simp only [List.getElem?_drop,Nat.add_zero] at this
   rw [this,idx_get,ha]
   rfl
 · show q.o + 1 + m = q.zs.length
   omega
 · show q.o + 1 + m ≤ q.all.length + 1
   omega
 · show m ≤ q.all.length
   omega
 · show q.zs.drop (q.o + 1) = (idx q.all).drop (q.all.length - m)
   rw [← List.drop_drop,hq.dr,List.drop_drop]
   congr 1
   omega
def enq0 (m:Bool) (q:Qt) (X h:List Int) (li:Nat) (hl:Bool):List Blk := [rdB 1 3 4 5 m,.dead,.dead,.dead,psB 6 7 q.q (some X.length) false li hl,.dead,q.Q 8 9,rowB X,q.D,q.H,hpB h]
def enq1 (m:Bool) (q:Qt) (X h:List Int) (li:Nat) (hl:Bool):List Blk := [rdB 1 3 4 5 m,.dead,.dead,.dead,psB 11 7 q.q (some X.length) false li hl,.dead,.dead,rowB X,.dead,.dead,hpB h,q.Q 12 13,q.D,q.H]
theorem enqueueQ (w0:World) (m:Bool) {q:Qt} (hq:q.ok) {h X:List Int} (hX:X.length ≤ 1099511627776) (hall:q.all.length ≤ 1099511627776) (li:Nat) (hl:Bool):CallsA Tryz.prog w0 97 [.c (.ptr 0 0),.c (.ptr 10 0),.c (.vec 7 X.length)] (enq0 m q X h li hl) fun r H =>
   r = .t [] ∧ ∃ q':Qt,q'.ok ∧ q'.all = q.all ++ [(X,h)] ∧ q'.n = q.n + 1 ∧ H = enq1 m q' X h li hl := by
 have hqle := hq.le
 have hqlen := hq.len
 refine callsA_of_ev c97_ ?_
 conv => whnf
 refine CallsA.liftKE (H0 := [rdB 1 3 4 5 m,.dead,.dead,.dead,.dead,.dead]) [0,1,2,3,4,5] [rdB 1 3 4 5 m,.dead,.dead,.dead,.dead,.dead,.dead,.dead,.dead,.dead,.dead,hpB h] ⟨rfl,rfl,trivial⟩ rfl ⟨rdE (by rfl) (by rfl) (by rfl) (by rfl) m,rfl,l1 _,l2 _,l3 _,l4 _,l5 _,trivial⟩ rfl (getStateW w0 m) ?_
 rintro _ _ ⟨rfl,rfl⟩
 refine ⟨.o (.c (.ptr 4 0)),[rdB 1 3 4 5 m,.dead,.dead,.dead,psB 6 7 q.q (some X.length) false li hl,.dead,q.Q 8 9,rowB X,q.D,q.H,hpB h,hpB h],rfl,⟨(rdB_ren (by rfl) (by rfl) (by rfl) (by rfl) m),rfl,rfl,rfl,rfl,rfl,rfl,rfl,rfl,rfl,rfl,rfl,trivial⟩,?_⟩
 refine ⟨trivial,?_⟩
 conv => whnf
 refine CallsA.liftKE (H0 := [rdB 1 3 4 5 m,.dead,.dead,.dead,.dead,.dead]) [0,1,2,3,4,5] [rdB 1 3 4 5 m,.dead,.dead,.dead,.dead,.dead,.dead,.dead,.dead,.dead,.dead,hpB h] ⟨rfl,rfl,trivial⟩ rfl ⟨rdE (by rfl) (by rfl) (by rfl) (by rfl) m,rfl,l1 _,l2 _,l3 _,l4 _,l5 _,trivial⟩ rfl (getStateW w0 m) ?_
 rintro _ _ ⟨rfl,rfl⟩
 refine ⟨.o (.c (.ptr 4 0)),[rdB 1 3 4 5 m,.dead,.dead,.dead,psB 6 7 q.q (some X.length) false li hl,.dead,q.Q 8 9,rowB X,q.D,q.H,hpB h,hpB h],rfl,⟨(rdB_ren (by rfl) (by rfl) (by rfl) (by rfl) m),rfl,rfl,rfl,rfl,rfl,rfl,rfl,rfl,rfl,rfl,rfl,trivial⟩,?_⟩
 refine ⟨trivial,?_⟩
 conv => whnf
 refine ⟨by decide,Int,encI .u8,[],X,fun _ => rfl,⟨rfl,Nat.le_refl _,rfl,by rw [List.take_of_length_le (Nat.le_refl _)]⟩,by omega,by omega,?_⟩
 conv => whnf
 refine ⟨⟨⟨rfl,rfl⟩,trivial⟩,?_⟩
 conv => whnf
 refine ⟨⟨⟨rfl,rfl⟩,trivial⟩,?_⟩
 conv => whnf
 refine ⟨_,Ghost.trans (Ghost.cellsRow (H1 := [rdB 1 3 4 5 m,.dead,.dead,.dead,psB 6 7 q.q (some X.length) false li hl,.dead,q.Q 8 9,rowB X,q.D,q.H,hpB h,.dead,rowB X,.cells 127 [.vec 12 X.length,.row 14 10 0 0]]) 11 encH [] 10 h rfl (by decide) (fun _ => rfl) rfl
     ⟨reC.keep (by decide),reC.dead,reC.dead,reC.dead,reC.keep (by decide),reC.dead,reC.keep (by decide),reC.keep (by decide),reC.keep (by decide),reC.keep (by decide),reC.keep (by decide),reC.dead,reC.keep (by decide),reC.cells (by decide) rfl,trivial⟩)
   (Ghost.trans (Ghost.joinL (H := [rdB 1 3 4 5 m,.dead,.dead,.dead,psB 6 7 q.q (some X.length) false li hl,.dead,q.Q 8 9,rowB X,q.D,q.H,hpB h,.dead,rowB X,.cells 127 [.vec 12 X.length,.row 14 10 0 0],.vec true 80 encH [] 10 [h]]) (H1 := [rdB 1 3 4 5 m,.dead,.dead,.dead,psB 6 7 q.q (some X.length) false li hl,.dead,quQ 15 9 q.zs,rowB X,.dead,q.H,hpB h,.dead,.dead,.cells 127 [.mem 15 q.all.length X.length,.row 14 10 0 0],.vec true 80 encH [] 10 [h]]) 8 12 rfl rfl
     ⟨.keep (by decide) (by decide),.dead,.dead,.dead,.keep (by decide) (by decide),.dead,.vec (by decide) (by decide) rfl (encE_len _) (tau_encE (fun _ _ => rfl) (fun _ => rfl) _),.keep (by decide) (by decide),.dead,.keep (by decide) (by decide),.keep (by decide) (by decide),.dead,.dead,.cells (by decide) (by decide) (by
       show [CV.mem 15 (q.all.map fun x => x.1).length X.length,CV.row 14 10 0 0] = _
       rw [List.length_map]),.keep (by decide) (by decide),trivial⟩)
    (Ghost.joinL (H := [rdB 1 3 4 5 m,.dead,.dead,.dead,psB 6 7 q.q (some X.length) false li hl,.dead,quQ 15 9 q.zs,rowB X,.dead,q.H,hpB h,.dead,.dead,.cells 127 [.mem 15 q.all.length X.length,.row 14 10 0 0],.vec true 80 encH [] 10 [h],.fam 5 (encI .u8) 1 ((q.all.map fun x => x.1) ++ [X])]) (H1 := [rdB 1 3 4 5 m,.dead,.dead,.dead,psB 6 7 q.q (some X.length) false li hl,.dead,quQ 15 16 q.zs,rowB X,.dead,.dead,hpB h,.dead,.dead,.cells 127 [.mem 15 q.all.length X.length,.mrow 16 q.all.length 10 0 0],.dead,.fam 5 (encI .u8) 1 ((q.all.map fun x => x.1) ++ [X])]) 9 14 rfl rfl
     ⟨.keep (by decide) (by decide),.dead,.dead,.dead,.keep (by decide) (by decide),.dead,.vec (by decide) (by decide) rfl (encE_len _) (tau_encE (fun _ _ => rfl) (fun _ => rfl) _),.keep (by decide) (by decide),.dead,.dead,.keep (by decide) (by decide),.dead,.dead,.cells (by decide) (by decide) (by
       show [CV.mem 15 q.all.length X.length,CV.mrow 16 ((q.all.map fun x => x.2).map fun h => [h]).length 10 0 0] = _
       rw [List.length_map,List.length_map]),.dead,.keep (by decide) (by decide),trivial⟩)),?_⟩
 conv => whnf
 have hlz:(q.zs ++ [some (q.all.length,X.length)]).length ≤ 1099511627778 := by
   rw [List.length_append,← hqlen]
   simp only [List.length_cons,List.length_nil]
   omega
 refine ⟨hqlen,[some (q.all.length,X.length)],⟨rfl,rfl,rfl⟩,by omega,by omega,fun o' p' zs h1 h2 h3 => ?_⟩
 conv => whnf
 refine ⟨trivial,?_⟩
 conv => whnf
 refine ⟨trivial,?_⟩
 conv => whnf
 have hput := Qt.put (X := X) (h := h) hq p' h1 h2 h3
 refine Or.inr ⟨[0,1,2,3,4,5,6,7,8,9,10,17,15,16],.t [],enq1 m ⟨q.all ++ [(X,h)],zs,o',q.n + 1,p'⟩ X h li hl,⟨rfl,⟨rdE (by rfl) (by rfl) (by rfl) (by rfl) m,rfl,l1 _,l2 _,l3 _,rfl,rfl,l5 _,lk 18 rfl rfl,rfl,rfl,lk 18 rfl rfl,lk 18 rfl rfl,rfl,rfl,rfl,rfl,?_,rfl,?_,rfl,trivial⟩,rfl⟩,rfl,rfl,_,hput,rfl,rfl,rfl⟩
 · show some (Blk.fam 5 (encI .u8) 1 ((q.all.map fun x => x.1) ++ [X])) = some (segB ((q.all ++ [(X,h)]).map fun x => x.1))
   rw [List.map_append]
   rfl
 · show some (Blk.fam 80 encH 10 (((q.all.map fun x => x.2).map fun h => [h]) ++ [[h]])) = some (fhB ((q.all ++ [(X,h)]).map fun x => x.2))
   unfold fhB
   rw [List.map_append,List.map_append]
   rfl
end Go.Proofs.YtokkphocaloelaaGreatDoor

end
section
namespace Go.Proofs.YtokkphocaloelaaGreatDoor
open Go Go.Vc
set_option maxRecDepth 100000
set_option maxHeartbeats 8000000

def cutS:Option (List Int) → List (List Int) → List (List Int) × Option (List Int)
 | part,[] => ([],part)
 | part,x :: r => if x.length = 255 then cutS (some (part.getD [] ++ x)) r else ((part.getD [] ++ x) :: (cutS none r).1,(cutS none r).2)
def parB:Option (List Int) → Blk
 | none => .dead
 | some x => rowB x
def parN (p:Option (List Int)):Nat := (p.getD []).length
theorem cutS_drop {part:Option (List Int)} {segs:List (List Int)} {i:Nat} {x:List Int} (hx:segs[i]? = some x):cutS part (segs.drop i) = if x.length = 255 then cutS (some (part.getD [] ++ x)) (segs.drop (i + 1)) else ((part.getD [] ++ x) :: (cutS none (segs.drop (i + 1))).1,(cutS none (segs.drop (i + 1))).2) := by
 have hi := (List.getElem?_eq_some_iff.1 hx).1
 have e:segs.drop i = x :: segs.drop (i + 1) := by
   rw [List.drop_eq_getElem_cons hi,(List.getElem?_eq_some_iff.1 hx).2]
 rw [e]
 rfl
structure QsI (segs:List (List Int)) (h:List Int) (A:List (List Int × List Int)) (N:Nat) (Z:Option (List Int)) (i:Nat) (q:Qt) (part:Option (List Int)):Prop where
 hi:i ≤ segs.length
 hq:q.ok
 hA:q.all ++ ((cutS part (segs.drop i)).1.map fun x => (x,h)) = A
 hZ:(cutS part (segs.drop i)).2 = Z
 hN:q.n + (cutS part (segs.drop i)).1.length = N
 hlen:parN part + 255 * (segs.length - i) ≤ 1099511627776
 hall:q.all.length + (segs.length - i) ≤ 1099511627776
theorem QsI.go {segs:List (List Int)} {h:List Int} {A:List (List Int × List Int)} {N:Nat} {Z:Option (List Int)} {i:Nat} {q:Qt} {part:Option (List Int)} (H:QsI segs h A N Z i q part) {x:List Int} (hx:segs[i]? = some x) (hl:x.length = 255):QsI segs h A N Z (i + 1) q (some (part.getD [] ++ x)) := by
 have hi := (List.getElem?_eq_some_iff.1 hx).1
 have e := cutS_drop (part := part) hx
 rw [if_pos hl] at e
 refine ⟨by omega,H.hq,by rw [← e]; exact H.hA,by rw [← e]; exact H.hZ,by rw [← e]; exact H.hN,?_,?_⟩
 · have := H.hlen
   simp only [parN,Option.getD_some,List.length_append] at this ⊢
   omega
 · have := H.hall
   omega
theorem QsI.cut {segs:List (List Int)} {h:List Int} {A:List (List Int × List Int)} {N:Nat} {Z:Option (List Int)} {i:Nat} {q:Qt} {part:Option (List Int)} (H:QsI segs h A N Z i q part) {x:List Int} (hx:segs[i]? = some x) (hl:x.length ≠ 255) {q':Qt} (h1:q'.ok) (h2:q'.all = q.all ++ [(part.getD [] ++ x,h)]) (h3:q'.n = q.n + 1):QsI segs h A N Z (i + 1) q' none := by
 have hi := (List.getElem?_eq_some_iff.1 hx).1
 have e := cutS_drop (part := part) hx
 rw [if_neg hl] at e
 have hA := H.hA
 have hZ := H.hZ
 have hN := H.hN
 rw [e] at hA hZ hN
 refine ⟨by omega,h1,?_,hZ,?_,?_,?_⟩
 · rw [h2,← hA]
   simp
 · rw [h3,← hN]
   simp only [List.length_cons]
   omega
 · have := H.hlen
   simp only [parN,Option.getD_none,List.length_nil] at this ⊢
   omega
 · have := H.hall
   rw [h2]
   simp only [List.length_append,List.length_cons,List.length_nil]
   omega
theorem QsI.bx {segs:List (List Int)} {h:List Int} {A:List (List Int × List Int)} {N:Nat} {Z:Option (List Int)} {i:Nat} {q:Qt} {part:Option (List Int)} (H:QsI segs h A N Z i q part) {x:List Int} (hx:segs[i]? = some x) (hl:x.length ≤ 255):(part.getD [] ++ x).length ≤ 1099511627776 ∧ q.all.length ≤ 1099511627776 := by
 have hi := (List.getElem?_eq_some_iff.1 hx).1
 have := H.hlen
 have := H.hall
 simp only [parN] at *
 rw [List.length_append]
 omega
theorem QsI.fin {segs:List (List Int)} {h:List Int} {A:List (List Int × List Int)} {N:Nat} {Z:Option (List Int)} {i:Nat} {q:Qt} {part:Option (List Int)} (H:QsI segs h A N Z i q part) (hi:¬ i < segs.length):q.ok ∧ q.all = A ∧ part = Z ∧ q.n = N := by
 have e:segs.drop i = [] := List.drop_eq_nil_of_le (by omega)
 have hA := H.hA
 have hZ := H.hZ
 have hN := H.hN
 rw [e] at hA hZ hN
 simp only [cutS,List.map_nil,List.append_nil,List.length_nil,Nat.add_zero] at hA hZ hN
 exact ⟨H.hq,hA,hZ,hN⟩
def qk0 (m:Bool) (q:Qt) (part:Option (List Int)) (li:Nat) (hl:Bool) (h:List Int) (segs:List (List Int)):List Blk :=
 [rdB 1 3 4 5 m,.dead,.dead,.dead,psB 6 7 q.q (part.map List.length) false li hl,.dead,q.Q 8 9,parB part,q.D,q.H,hpB h,rowB (lenI segs),outB 13 segs,segB segs]
def qk1 (m:Bool) (q:Qt) (part:Option (List Int)) (li:Nat) (hl:Bool) (h:List Int) (segs:List (List Int)):List Blk :=
 [rdB 1 3 4 5 m,.dead,.dead,.dead,psB 14 15 q.q (part.map List.length) false li hl,.dead,.dead,.dead,.dead,.dead,hpB h,rowB (lenI segs),outB 13 segs,segB segs,q.Q 16 17,parB part,q.D,q.H]
def qk2 (m:Bool) (q:Qt) (part:Option (List Int)) (li:Nat) (hl:Bool) (h:List Int):List Blk :=
 [rdB 1 3 4 5 m,.dead,.dead,.dead,psB 14 15 q.q (part.map List.length) false li hl,.dead,.dead,.dead,.dead,.dead,hpB h,.dead,.dead,.dead,q.Q 16 17,parB part,q.D,q.H]
def QkI (segs:List (List Int)) (h:List Int) (A:List (List Int × List Int)) (N:Nat) (Z:Option (List Int)) := {x:Nat × Qt × Option (List Int) // QsI segs h A N Z x.1 x.2.1 x.2.2}
def qkE (i k:Nat):Env := [(0,.o (.c (.ptr 0 0))),(1,.o (.c (.vec 12 k))),(2,.o (.c (.vec 11 k))),(3,.o (.c (.ptr 10 0))),(9,.o (.c (.ptr 4 0))),(22,.o (.c (.vec 12 k))),(23,.o (.c (.val (.int .i64 ((k:Nat):Int))))),(24,.o (.c (.val (.int .i64 ((i:Nat):Int)))))]
def qkSt (m:Bool) (li:Nat) (hl:Bool) (segs:List (List Int)) (h:List Int) (A:List (List Int × List Int)) (N:Nat) (Z:Option (List Int)):QkI segs h A N Z → S
 | ⟨(i,q,part),_⟩ => ⟨qkE i segs.length,qk1 m q part li hl h segs⟩
def QkJ (A:List (List Int × List Int)) (N:Nat) := {x:Qt // x.ok ∧ x.all = A ∧ x.n = N}
theorem prepQ (w0:World) (m:Bool) (q:Qs) (part:Option (List Int)) (li:Nat) (hl:Bool) {h:List Int} (hb:Byt h) (hg:(bt h 5 % 2 ≠ 0) ↔ parN part ≠ 0) (hs:parN part ≠ 0 → hl = true ∧ le ((h.drop 18).take 4) = (li + 1) % 4294967296) :
   CallsA Tryz.prog w0 95 [.c (.ptr 0 0),.c (.ptr 8 0)] [rdB 1 3 4 5 m,.dead,.dead,.dead,psB 6 7 q (part.map List.length) false li hl,.dead,.dead,.dead,hpB h] fun r H =>
   r = .o (.c (.val .nilIface)) ∧ H = [rdB 1 3 4 5 m,.dead,.dead,.dead,psB 6 7 q (part.map List.length) false li hl,.dead,.dead,.dead,hpB h] := by
 have hb5 := bt_lt hb 5
 have hand:(IntKind.u8.wrap (((BitVec.ofInt IntKind.u8.bits ((bt h 5:Nat):Int) &&& BitVec.ofInt IntKind.u8.bits ((1:Nat):Int)).toNat:Nat):Int) != ((0:Nat):Int)) = decide (bt h 5 % 2 ≠ 0) := by
   rw [nand8 hb5 (by omega),Nat.and_one_is_mod]
   by_cases g:bt h 5 % 2 = 0
   · rw [g]; rfl
   · have:bt h 5 % 2 = 1 := by omega
     rw [this]; rfl
 obtain ⟨f,hf⟩:∃ f:Bool,f = decide (bt h 5 % 2 ≠ 0) := ⟨_,rfl⟩
 rw [← hf] at hand
 refine callsA_of_ev c95_ ?_
 conv => whnf
 refine CallsA.liftKE (H0 := [rdB 1 3 4 5 m,.dead,.dead,.dead,.dead,.dead]) [0,1,2,3,4,5] [rdB 1 3 4 5 m,.dead,.dead,.dead,.dead,.dead,.dead,.dead,hpB h] ⟨rfl,rfl,trivial⟩ rfl ⟨rdE (by rfl) (by rfl) (by rfl) (by rfl) m,rfl,l1 _,l2 _,l3 _,l4 _,l5 _,trivial⟩ rfl (getStateW w0 m) ?_
 rintro _ _ ⟨rfl,rfl⟩
 refine ⟨.o (.c (.ptr 4 0)),[rdB 1 3 4 5 m,.dead,.dead,.dead,psB 6 7 q (part.map List.length) false li hl,.dead,.dead,.dead,hpB h],rfl,⟨rdB_ren (by rfl) (by rfl) (by rfl) (by rfl) m,rfl,rfl,rfl,rfl,rfl,rfl,rfl,rfl,trivial⟩,?_⟩
 conv => whnf
 rw [hand]
 have hz:parN part = 0 → f = false := fun c => by rw [hf]; exact decide_eq_false fun g => hg.1 g c
 have hnz:parN part ≠ 0 → f = true := fun c => by rw [hf]; exact decide_eq_true (hg.2 c)
 have hidx:parN part ≠ 0 → ((((le ((h.drop 18).take 4):Nat):Int)) == IntKind.u32.wrap (((li:Nat):Int) + ((1:Nat):Int))) = true := fun c => by
   rw [(hs c).2,IntKind.wrap_u32]
   exact beq_iff_eq.2 (by omega)
 cases hl with
 | false =>
   have hp0:parN part = 0 := Classical.byContradiction fun c => Bool.noConfusion (hs c).1
   have hf0 := hz hp0
   subst hf0
   refine ⟨fun _ => ?_,fun g => zT g⟩
   conv => whnf
   refine Or.inl ?_
   conv => whnf
   refine ⟨fun g => zF g,fun _ => ?_⟩
   conv => whnf
   refine Or.inl ?_
   conv => whnf
   cases part with
   | none =>
     refine ⟨fun g => zF g,fun _ => ?_⟩
     conv => whnf
     refine Or.inl ?_
     conv => whnf
     refine ⟨fun g => zF g,fun _ => ?_⟩
     conv => whnf
     exact Or.inr ⟨[0,1,2,3,4,5,6,7,8],.o (.c (.val .nilIface)),[rdB 1 3 4 5 m,.dead,.dead,.dead,psB 6 7 q (Option.map List.length none) false li _,.dead,.dead,.dead,hpB h],⟨rfl,⟨rdE (by rfl) (by rfl) (by rfl) (by rfl) m,rfl,l1 _,l2 _,l3 _,psE (by rfl) (by rfl) _ _ _ _ _,rfl,l5 _,lk 9 rfl rfl,lk 9 rfl rfl,rfl,rfl,trivial⟩,rfl⟩,rfl,rfl,rfl⟩
   | some x =>
     cases x with
     | cons y r => exact absurd hp0 (by simp [parN])
     | nil =>
       refine ⟨fun g => zF g,fun _ => ?_⟩
       conv => whnf
       refine Or.inl ?_
       conv => whnf
       refine ⟨fun g => zF g,fun _ => ?_⟩
       conv => whnf
       exact Or.inr ⟨[0,1,2,3,4,5,6,7,8],.o (.c (.val .nilIface)),[rdB 1 3 4 5 m,.dead,.dead,.dead,psB 6 7 q (Option.map List.length (some [])) false li _,.dead,.dead,.dead,hpB h],⟨rfl,⟨rdE (by rfl) (by rfl) (by rfl) (by rfl) m,rfl,l1 _,l2 _,l3 _,psE (by rfl) (by rfl) _ _ _ _ _,rfl,l5 _,lk 9 rfl rfl,lk 9 rfl rfl,rfl,rfl,trivial⟩,rfl⟩,rfl,rfl,rfl⟩
 | true =>
   refine ⟨fun g => zF g,fun _ => ?_⟩
   conv => whnf
   refine Or.inl ?_
   conv => whnf
   refine ⟨fun g => zF g,fun _ => ?_⟩
   conv => whnf
   refine Or.inl ?_
   conv => whnf
   cases part with
   | none =>
     have hf0 := hz rfl
     subst hf0
     refine ⟨fun g => zF g,fun _ => ?_⟩
     conv => whnf
     refine Or.inl ?_
     conv => whnf
     refine ⟨fun g => zF g,fun _ => ?_⟩
     conv => whnf
     exact Or.inr ⟨[0,1,2,3,4,5,6,7,8],.o (.c (.val .nilIface)),[rdB 1 3 4 5 m,.dead,.dead,.dead,psB 6 7 q (Option.map List.length none) false li _,.dead,.dead,.dead,hpB h],⟨rfl,⟨rdE (by rfl) (by rfl) (by rfl) (by rfl) m,rfl,l1 _,l2 _,l3 _,psE (by rfl) (by rfl) _ _ _ _ _,rfl,l5 _,lk 9 rfl rfl,lk 9 rfl rfl,rfl,rfl,trivial⟩,rfl⟩,rfl,rfl,rfl⟩
   | some x =>
     cases x with
     | nil =>
       have hf0 := hz rfl
       subst hf0
       refine ⟨fun g => zF g,fun _ => ?_⟩
       conv => whnf
       refine Or.inl ?_
       conv => whnf
       refine ⟨fun g => zF g,fun _ => ?_⟩
       conv => whnf
       exact Or.inr ⟨[0,1,2,3,4,5,6,7,8],.o (.c (.val .nilIface)),[rdB 1 3 4 5 m,.dead,.dead,.dead,psB 6 7 q (Option.map List.length (some [])) false li _,.dead,.dead,.dead,hpB h],⟨rfl,⟨rdE (by rfl) (by rfl) (by rfl) (by rfl) m,rfl,l1 _,l2 _,l3 _,psE (by rfl) (by rfl) _ _ _ _ _,rfl,l5 _,lk 9 rfl rfl,lk 9 rfl rfl,rfl,rfl,trivial⟩,rfl⟩,rfl,rfl,rfl⟩
     | cons y r =>
       have hf0 := hnz (by simp [parN])
       subst hf0
       refine ⟨fun g => ?_,fun g => ?_⟩
       · conv => whnf
         refine Or.inl ?_
         conv => whnf
         refine ⟨fun g => zF g,fun _ => ?_⟩
         conv => whnf
         refine ⟨fun g2 => ?_,fun _ => ?_⟩
         · have g3 := hidx (by simp [parN])
           exact Bool.noConfusion ((congrArg (fun c => !c) g3).symm.trans g2)
         conv => whnf
         exact Or.inr ⟨[0,1,2,3,4,5,6,7,8],.o (.c (.val .nilIface)),[rdB 1 3 4 5 m,.dead,.dead,.dead,psB 6 7 q (Option.map List.length (some (y :: r))) false li _,.dead,.dead,.dead,hpB h],⟨rfl,⟨rdE (by rfl) (by rfl) (by rfl) (by rfl) m,rfl,l1 _,l2 _,l3 _,psE (by rfl) (by rfl) _ _ _ _ _,rfl,l5 _,lk 9 rfl rfl,lk 9 rfl rfl,rfl,rfl,trivial⟩,rfl⟩,rfl,rfl,rfl⟩
       · exact absurd (bne_f g) (by simp)
end Go.Proofs.YtokkphocaloelaaGreatDoor

end
section
namespace Go.Proofs.YtokkphocaloelaaGreatDoor
open Go Go.Vc
set_option maxRecDepth 100000
set_option maxHeartbeats 8000000

theorem embP {σ:List Nat} {H r:List Blk} {is:List Nat} {i:Nat} {part:Option (List Int)} (h:H[i]? = some (parB part)) (hr:embH σ H r is):embH σ H (parB part :: r) (i :: is) := by
 cases part with
 | none => exact ⟨(List.getElem?_eq_some_iff.1 h).1,hr⟩
 | some x => exact ⟨h,rfl,hr⟩
theorem queuePkQ (w0:World) (m:Bool) {q:Qt} {part:Option (List Int)} {li:Nat} {hl:Bool} {h:List Int} {segs:List (List Int)} (hb:Byt h) (hg:(bt h 5 % 2 ≠ 0) ↔ parN part ≠ 0) (hs:parN part ≠ 0 → hl = true ∧ le ((h.drop 18).take 4) = (li + 1) % 4294967296)
   (h8:∀ x ∈ segs,x.length ≤ 255) (hq:q.ok) (hlen:parN part + 255 * segs.length ≤ 1099511627776) (hall:q.all.length + segs.length ≤ 1099511627776) :
   CallsA Tryz.prog w0 55 [.c (.ptr 0 0),.c (.vec 12 segs.length),.c (.vec 11 segs.length),.c (.ptr 10 0)] (qk0 m q part li hl h segs) fun r H =>
     r = .o (.c (.val .nilIface)) ∧ ∃ q':Qt,q'.ok ∧ q'.all = q.all ++ ((cutS part segs).1.map fun x => (x,h)) ∧ q'.n = q.n + (cutS part segs).1.length ∧ H = qk2 m q' (cutS part segs).2 (mkLi h li) (mkHl h hl) h := by
 obtain ⟨A,hA⟩:∃ A,A = q.all ++ ((cutS part segs).1.map fun x => (x,h)) := ⟨_,rfl⟩
 obtain ⟨NN,hN⟩:∃ NN,NN = q.n + (cutS part segs).1.length := ⟨_,rfl⟩
 obtain ⟨Z,hZ⟩:∃ Z,Z = (cutS part segs).2 := ⟨_,rfl⟩
 have hI0:QsI segs h A NN Z 0 q part := ⟨Nat.zero_le _,hq,hA.symm,hZ.symm,hN.symm,by simpa using hlen,by simpa using hall⟩
 rw [← hA,← hN,← hZ]
 refine callsA_of_ev c55_ ?_
 conv => whnf
 refine CallsA.liftKE (H0 := [rdB 1 3 4 5 m,.dead,.dead,.dead,.dead,.dead]) [0,1,2,3,4,5] [rdB 1 3 4 5 m,.dead,.dead,.dead,.dead,.dead,.dead,.dead,.dead,.dead,.dead,.dead,.dead,.dead] ⟨rfl,trivial⟩ rfl ⟨rdE (by rfl) (by rfl) (by rfl) (by rfl) m,rfl,l1 _,l2 _,l3 _,l4 _,l5 _,trivial⟩ rfl (getStateW w0 m) ?_
 rintro _ _ ⟨rfl,rfl⟩
 refine ⟨.o (.c (.ptr 4 0)),qk0 m q part li hl h segs,rfl,⟨rdB_ren (by rfl) (by rfl) (by rfl) (by rfl) m,rfl,rfl,rfl,rfl,rfl,rfl,rfl,rfl,rfl,rfl,rfl,rfl,rfl,trivial⟩,?_⟩
 conv => whnf
 refine Or.inr ⟨Unit,fun _ => ⟨[(0,.o (.c (.ptr 0 0))),(1,.o (.c (.vec 12 segs.length))),(2,.o (.c (.vec 11 segs.length))),(3,.o (.c (.ptr 10 0))),(9,.o (.c (.ptr 4 0)))],qk0 m q part li hl h segs⟩,?_,fun _ => ?_⟩
 · conv => whnf
   refine CallsA.liftKE (H0 := [rdB 1 3 4 5 m,.dead,.dead,.dead,psB 6 7 q.q (part.map List.length) false li hl,.dead,.dead,.dead,hpB h]) [0,1,2,3,4,5,6,7,10] [rdB 1 3 4 5 m,.dead,.dead,.dead,psB 6 7 q.q (part.map List.length) false li hl,.dead,.dead,.dead,.dead,.dead,hpB h,.dead,.dead,.dead] ⟨rfl,rfl,rfl,trivial⟩ rfl ⟨rdE (by rfl) (by rfl) (by rfl) (by rfl) m,rfl,l1 _,l2 _,l3 _,psE (by rfl) (by rfl) _ _ _ _ _,rfl,l5 _,lk 14 rfl rfl,lk 14 rfl rfl,rfl,rfl,trivial⟩ rfl (prepQ w0 m q.q part li hl hb hg hs) ?_
   rintro _ _ ⟨rfl,rfl⟩
   refine ⟨.o (.c (.val .nilIface)),qk0 m q part li hl h segs,rfl,⟨rdB_ren (by rfl) (by rfl) (by rfl) (by rfl) m,rfl,rfl,rfl,psB_ren (by rfl) (by rfl) _ _ _ _ _,rfl,rfl,rfl,rfl,rfl,rfl,rfl,rfl,rfl,trivial⟩,?_⟩
   conv => whnf
   refine ⟨fun g => zF g,fun _ => ?_⟩
   conv => whnf
   exact ⟨(),[0,1,2,3,4,5,6,7,8,9,10,11,12,13],⟨rfl,⟨rdE (by rfl) (by rfl) (by rfl) (by rfl) m,rfl,l1 _,l2 _,l3 _,psE (by rfl) (by rfl) _ _ _ _ _,rfl,l5 _,rfl,rfl,embP rfl ⟨rfl,rfl,rfl,rfl,rfl,rfl,rfl,rfl,rfl,rfl,rfl,rfl,trivial⟩⟩,by cases part <;> rfl⟩,rfl,rfl,rfl,rfl,rfl,trivial⟩
 conv => whnf
 refine Or.inr ⟨QkJ A NN,fun j => ⟨[(0,.o (.c (.ptr 0 0))),(3,.o (.c (.ptr 10 0))),(9,.o (.c (.ptr 4 0)))],qk2 m j.1 Z li hl h⟩,?_,fun j => ?_⟩
 · conv => whnf
   refine ⟨QkI segs h A NN Z,qkSt m li hl segs h A NN Z,fun j => segs.length - j.1.1,⟨⟨(0,q,part),hI0⟩,[0,1,2,3,4,5,6,7,8,9,10,11,12,13,6,7,8,9],⟨rfl,⟨rdE (by rfl) (by rfl) (by rfl) (by rfl) m,rfl,l1 _,l2 _,l3 _,psE (by rfl) (by rfl) _ _ _ _ _,rfl,l5 _,lk 14 rfl rfl,lk 14 rfl rfl,lk 14 rfl rfl,lk 14 rfl rfl,rfl,rfl,rfl,rfl,rfl,rfl,rfl,rfl,rfl,rfl,embP rfl ⟨rfl,rfl,rfl,rfl,trivial⟩⟩,by cases part <;> rfl⟩,rfl,rfl,rfl,rfl,rfl,rfl,rfl,rfl,trivial⟩,fun j => ?_⟩
   obtain ⟨⟨i,q1,part1⟩,hI⟩ := j
   have hI:QsI segs h A NN Z i q1 part1 := hI
   cases part1 with
   | none =>
     conv => whnf
     refine ⟨fun g => ?_,fun g => ?_⟩
     · have g:i < segs.length := lt_t g
       obtain ⟨x,hx⟩:∃ x,segs[i]? = some x := ⟨_,List.getElem?_eq_getElem g⟩
       have hxl := h8 x (List.mem_of_getElem? hx)
       have hsz:(lenI segs)[i]? = some ((x.length:Nat):Int) := by unfold lenI; rw [List.getElem?_map,hx]; rfl
       have hrow:(turns (segs.map List.length))[i]? = some (i,x.length) := by rw [turns_get,List.getElem?_map,hx]; rfl
       have hbx := hI.bx hx hxl
       have hbx1:([] ++ x).length ≤ 1099511627776 := hbx.1
       have hbx2:([] ++ x).length = ([]:List Int).length + x.length := List.length_append
       conv => whnf
       refine Or.inl ?_
       conv => whnf
       refine ⟨⟨by omega,by omega⟩,?_⟩
       conv => whnf
       refine ⟨(i,x.length),hrow,?_⟩
       conv => whnf
       refine ⟨⟨by omega,by omega⟩,?_⟩
       conv => whnf
       refine ⟨((x.length:Nat):Int),hsz,?_⟩
       conv => whnf
       refine Or.inl ?_
       conv => whnf
       refine ⟨fun g => zF g,fun _ => ?_⟩
       conv => whnf
       refine ⟨by decide,Int,encI .u8,[],x,fun _ => rfl,⟨rfl,x,hx,Nat.le_refl _,rfl,by rw [List.take_of_length_le (Nat.le_refl _)]⟩,by omega,by omega,?_⟩
       conv => whnf
       refine Or.inl ?_
       conv => whnf
       refine ⟨fun g2 => ?_,fun g2 => ?_⟩
       · have g2:x.length = 255 := beq_t (b := 255) g2
         conv => whnf
         refine ⟨⟨(i + 1,q1,some ([] ++ x)),hI.go hx g2⟩,⟨[0,1,2,3,4,5,6,7,8,9,10,11,12,13,14,18,16,17],⟨rfl,⟨rdE (by rfl) (by rfl) (by rfl) (by rfl) m,rfl,l1 _,l2 _,l3 _,rfl,rfl,l5 _,lk 19 rfl rfl,lk 19 rfl rfl,lk 19 rfl rfl,lk 19 rfl rfl,rfl,rfl,rfl,rfl,rfl,rfl,rfl,rfl,rfl,rfl,rfl,rfl,rfl,rfl,rfl,rfl,trivial⟩,rfl⟩,rfl,rfl,rfl,rfl,rfl,rfl,rfl,?_,trivial⟩,?_⟩
         · refine eq_i64 ?_
           rw [IntKind.wrap_i64]
           omega
         · show segs.length - (i + 1) < segs.length - i
           omega
       · have g2:x.length ≠ 255 := beq_f (b := 255) g2
         conv => whnf
         refine CallsA.liftE (H0 := enq0 m q1 ([] ++ x) h li hl) [0,1,2,3,4,5,14,18,16,17,10] rfl ⟨rdE (by rfl) (by rfl) (by rfl) (by rfl) m,rfl,l1 _,l2 _,l3 _,rfl,rfl,l5 _,rfl,rfl,rfl,rfl,rfl,rfl,rfl,rfl,rfl,rfl,trivial⟩ rfl (enqueueQ w0 m hI.hq hbx.1 hbx.2 li hl) ?_
         rintro _ _ ⟨rfl,q2,hq2,ha2,hn2,rfl⟩
         refine ⟨.t [],[rdB 1 3 4 5 m,.dead,.dead,.dead,psB 19 18 q2.q (some ([] ++ x).length) false li hl,.dead,.dead,.dead,.dead,.dead,hpB h,rowB (lenI segs),outB 13 segs,segB segs,.dead,.dead,.dead,.dead,rowB ([] ++ x),q2.Q 20 21,q2.D,q2.H],rfl,⟨rdB_ren (by rfl) (by rfl) (by rfl) (by rfl) m,rfl,rfl,rfl,rfl,rfl,rfl,rfl,rfl,rfl,rfl,rfl,rfl,rfl,rfl,rfl,rfl,rfl,rfl,rfl,rfl,rfl,trivial⟩,?_⟩
         conv => whnf
         refine ⟨⟨(i + 1,q2,none),hI.cut hx g2 hq2 ha2 hn2⟩,⟨[0,1,2,3,4,5,6,7,8,9,10,11,12,13,19,15,20,21],⟨rfl,⟨rdE (by rfl) (by rfl) (by rfl) (by rfl) m,rfl,l1 _,l2 _,l3 _,rfl,rfl,l5 _,lk 22 rfl rfl,lk 22 rfl rfl,lk 22 rfl rfl,lk 22 rfl rfl,rfl,rfl,rfl,rfl,rfl,rfl,rfl,rfl,rfl,rfl,lk 22 rfl rfl,rfl,rfl,rfl,rfl,trivial⟩,rfl⟩,rfl,rfl,rfl,rfl,rfl,rfl,rfl,?_,trivial⟩,?_⟩
         · refine eq_i64 ?_
           rw [IntKind.wrap_i64]
           omega
         · show segs.length - (i + 1) < segs.length - i
           omega
     · have g:¬ i < segs.length := Nat.not_lt.2 (lt_f g)
       obtain ⟨f1,f2,f3,f4⟩ := hI.fin g
       conv => whnf
       exact ⟨⟨q1,f1,f2,f4⟩,[0,1,2,3,4,5,6,7,8,9,10,11,12,13,14,15,16,17],⟨rfl,⟨rdE (by rfl) (by rfl) (by rfl) (by rfl) m,rfl,l1 _,l2 _,l3 _,f3 ▸ rfl,f3 ▸ rfl,l5 _,lk 18 rfl rfl,lk 18 rfl rfl,lk 18 rfl rfl,lk 18 rfl rfl,rfl,rfl,lk 18 rfl rfl,lk 18 rfl rfl,lk 18 rfl rfl,rfl,rfl,f3 ▸ embP rfl ⟨rfl,rfl,rfl,rfl,trivial⟩⟩,f3 ▸ rfl⟩,rfl,rfl,rfl,trivial⟩
   | some y =>
     have hyl:∀ x:List Int,(y ++ x).length = y.length + x.length := fun x => List.length_append
     conv => whnf
     refine ⟨fun g => ?_,fun g => ?_⟩
     · have g:i < segs.length := lt_t g
       obtain ⟨x,hx⟩:∃ x,segs[i]? = some x := ⟨_,List.getElem?_eq_getElem g⟩
       have hxl := h8 x (List.mem_of_getElem? hx)
       have hsz:(lenI segs)[i]? = some ((x.length:Nat):Int) := by unfold lenI; rw [List.getElem?_map,hx]; rfl
       have hrow:(turns (segs.map List.length))[i]? = some (i,x.length) := by rw [turns_get,List.getElem?_map,hx]; rfl
       have hbx := hI.bx hx hxl
       have hbx1:(y ++ x).length ≤ 1099511627776 := hbx.1
       have hbx2:(y ++ x).length = (y:List Int).length + x.length := List.length_append
       conv => whnf
       refine Or.inl ?_
       conv => whnf
       refine ⟨⟨by omega,by omega⟩,?_⟩
       conv => whnf
       refine ⟨(i,x.length),hrow,?_⟩
       conv => whnf
       refine ⟨⟨by omega,by omega⟩,?_⟩
       conv => whnf
       refine ⟨((x.length:Nat):Int),hsz,?_⟩
       conv => whnf
       refine Or.inl ?_
       conv => whnf
       refine ⟨fun g => zF g,fun _ => ?_⟩
       conv => whnf
       refine ⟨rfl,x,⟨rfl,x,hx,Nat.le_refl _,rfl,by rw [List.take_of_length_le (Nat.le_refl _)]⟩,by omega,by omega,?_⟩
       conv => whnf
       refine Or.inl ?_
       conv => whnf
       refine ⟨fun g2 => ?_,fun g2 => ?_⟩
       · have g2:x.length = 255 := beq_t (b := 255) g2
         conv => whnf
         refine ⟨⟨(i + 1,q1,some (y ++ x)),hI.go hx g2⟩,⟨[0,1,2,3,4,5,6,7,8,9,10,11,12,13,14,18,16,17],⟨rfl,⟨rdE (by rfl) (by rfl) (by rfl) (by rfl) m,rfl,l1 _,l2 _,l3 _,rfl,rfl,l5 _,lk 19 rfl rfl,lk 19 rfl rfl,lk 19 rfl rfl,lk 19 rfl rfl,rfl,rfl,rfl,rfl,rfl,rfl,rfl,rfl,rfl,rfl,rfl,rfl,rfl,rfl,rfl,rfl,trivial⟩,rfl⟩,rfl,rfl,rfl,rfl,rfl,rfl,rfl,?_,trivial⟩,?_⟩
         · refine eq_i64 ?_
           rw [IntKind.wrap_i64]
           omega
         · show segs.length - (i + 1) < segs.length - i
           omega
       · have g2:x.length ≠ 255 := beq_f (b := 255) g2
         conv => whnf
         refine CallsA.liftE (H0 := enq0 m q1 (y ++ x) h li hl) [0,1,2,3,4,5,14,18,16,17,10] rfl ⟨rdE (by rfl) (by rfl) (by rfl) (by rfl) m,rfl,l1 _,l2 _,l3 _,rfl,rfl,l5 _,rfl,rfl,rfl,rfl,rfl,rfl,rfl,rfl,rfl,rfl,trivial⟩ rfl (enqueueQ w0 m hI.hq hbx.1 hbx.2 li hl) ?_
         rintro _ _ ⟨rfl,q2,hq2,ha2,hn2,rfl⟩
         refine ⟨.t [],[rdB 1 3 4 5 m,.dead,.dead,.dead,psB 19 18 q2.q (some (y ++ x).length) false li hl,.dead,.dead,.dead,.dead,.dead,hpB h,rowB (lenI segs),outB 13 segs,segB segs,.dead,.dead,.dead,.dead,rowB (y ++ x),q2.Q 20 21,q2.D,q2.H],rfl,⟨rdB_ren (by rfl) (by rfl) (by rfl) (by rfl) m,rfl,rfl,rfl,rfl,rfl,rfl,rfl,rfl,rfl,rfl,rfl,rfl,rfl,rfl,rfl,rfl,rfl,rfl,rfl,rfl,rfl,trivial⟩,?_⟩
         conv => whnf
         refine ⟨⟨(i + 1,q2,none),hI.cut hx g2 hq2 ha2 hn2⟩,⟨[0,1,2,3,4,5,6,7,8,9,10,11,12,13,19,15,20,21],⟨rfl,⟨rdE (by rfl) (by rfl) (by rfl) (by rfl) m,rfl,l1 _,l2 _,l3 _,rfl,rfl,l5 _,lk 22 rfl rfl,lk 22 rfl rfl,lk 22 rfl rfl,lk 22 rfl rfl,rfl,rfl,rfl,rfl,rfl,rfl,rfl,rfl,rfl,rfl,lk 22 rfl rfl,rfl,rfl,rfl,rfl,trivial⟩,rfl⟩,rfl,rfl,rfl,rfl,rfl,rfl,rfl,?_,trivial⟩,?_⟩
         · refine eq_i64 ?_
           rw [IntKind.wrap_i64]
           omega
         · show segs.length - (i + 1) < segs.length - i
           omega
     · have g:¬ i < segs.length := Nat.not_lt.2 (lt_f g)
       obtain ⟨f1,f2,f3,f4⟩ := hI.fin g
       conv => whnf
       exact ⟨⟨q1,f1,f2,f4⟩,[0,1,2,3,4,5,6,7,8,9,10,11,12,13,14,15,16,17],⟨rfl,⟨rdE (by rfl) (by rfl) (by rfl) (by rfl) m,rfl,l1 _,l2 _,l3 _,f3 ▸ rfl,f3 ▸ rfl,l5 _,lk 18 rfl rfl,lk 18 rfl rfl,lk 18 rfl rfl,lk 18 rfl rfl,rfl,rfl,lk 18 rfl rfl,lk 18 rfl rfl,lk 18 rfl rfl,rfl,rfl,f3 ▸ embP rfl ⟨rfl,rfl,rfl,rfl,trivial⟩⟩,f3 ▸ rfl⟩,rfl,rfl,rfl,trivial⟩
 · obtain ⟨q1,f1,f2,f3⟩ := j
   conv => whnf
   refine CallsA.liftKE (H0 := [rdB 1 3 4 5 m,.dead,.dead,.dead,psB 7 8 q1.q (Z.map List.length) false li hl,.dead,hpB h,.dead,.dead]) [0,1,2,3,4,5,10,14,15] [rdB 1 3 4 5 m,.dead,.dead,.dead,psB 14 15 q1.q (Z.map List.length) false li hl,.dead,.dead,.dead,.dead,.dead,hpB h,.dead,.dead,.dead,.dead,.dead,.dead,.dead] ⟨rfl,rfl,rfl,trivial⟩ rfl ⟨rdE (by rfl) (by rfl) (by rfl) (by rfl) m,rfl,l1 _,l2 _,l3 _,psE (by rfl) (by rfl) _ _ _ _ _,rfl,l5 _,rfl,rfl,lk 18 rfl rfl,lk 18 rfl rfl,trivial⟩ rfl (markReadW w0 m q1.q (Z.map List.length) false li hl) ?_
   rintro _ _ ⟨rfl,rfl⟩
   refine ⟨.t [],qk2 m q1 Z (mkLi h li) (mkHl h hl) h,rfl,⟨rdB_ren (by rfl) (by rfl) (by rfl) (by rfl) m,rfl,rfl,rfl,psB_ren (by rfl) (by rfl) _ _ _ _ _,rfl,rfl,rfl,rfl,rfl,rfl,rfl,rfl,rfl,rfl,rfl,rfl,rfl,trivial⟩,?_⟩
   conv => whnf
   exact Or.inl ⟨rfl,q1,f1,f2,f3,rfl⟩
end Go.Proofs.YtokkphocaloelaaGreatDoor

end
section
namespace Go.Proofs.YtokkphocaloelaaGreatDoor
open Go Go.Vc
set_option maxRecDepth 100000
set_option maxHeartbeats 8000000

theorem pageI_fac {r r':List Int} {g:PgI} (h:pageI r = some (g,r')):r'.length + 27 ≤ r.length ∧ g.hdr = r.take 27 ∧ (Byt r → Byt r' ∧ g.segs.length ≤ 256 ∧ (∀ x ∈ g.segs,Byt x ∧ x.length ≤ 255)) := by
 unfold pageI at h
 split at h
 · cases h
 · rename_i h1
   split at h
   · cases h
   · rename_i h2
     split at h
     · cases h
     · rename_i segs q hs
       split at h
       · cases h
         obtain ⟨a,b,c,d⟩ := segsI_facts _ _ hs
         rw [List.length_drop] at d
         refine ⟨by omega,rfl,fun hr => ?_⟩
         · obtain ⟨e,f⟩ := b (hr.drop _)
           have hb := bt_lt hr 26
           exact ⟨e,by show segs.length ≤ 256; rw [List.length_take] at a; omega,fun x hx => ⟨f x hx,c ((hr.drop _).take _) x hx⟩⟩
       · cases h
def pkAll (part:Option (List Int)) (R:List Int):List (List Int × List Int) × Option (List Int) × List Int :=
 match _h:pageI R with
 | none => ([],part,R)
 | some (g,r') => (((cutS part g.segs).1.map fun x => (x,g.hdr)) ++ (pkAll (cutS part g.segs).2 r').1,(pkAll (cutS part g.segs).2 r').2)
termination_by R.length
decreasing_by all_goals (have := (pageI_fac _h).1; omega)
theorem pkAll_none {part:Option (List Int)} {r:List Int} (h:pageI r = none):pkAll part r = ([],part,r) := by
 rw [pkAll]
 split
 · rfl
 · rename_i h2
   rw [h] at h2
   cases h2
theorem pkAll_some {part:Option (List Int)} {r r':List Int} {g:PgI} (h:pageI r = some (g,r')):pkAll part r = (((cutS part g.segs).1.map fun x => (x,g.hdr)) ++ (pkAll (cutS part g.segs).2 r').1,(pkAll (cutS part g.segs).2 r').2) := by
 rw [pkAll]
 split
 · rename_i h2
   rw [h] at h2
   cases h2
 · rename_i h2
   rw [h] at h2
   cases h2
   rfl
structure PgOk (part:Option (List Int)) (li:Nat) (hl:Bool) (g:PgI):Prop where
 siz:g.sizes = lenI g.segs
 fla:(bt g.hdr 5 % 2 ≠ 0) ↔ parN part ≠ 0
 seq:parN part ≠ 0 → hl = true ∧ le ((g.hdr.drop 18).take 4) = (li + 1) % 4294967296
def goodR (part:Option (List Int)) (li:Nat) (hl:Bool) (R:List Int):Prop :=
 match _h:pageI R with
 | none => True
 | some (g,r') => PgOk part li hl g ∧ goodR (cutS part g.segs).2 (mkLi g.hdr li) (mkHl g.hdr hl) r'
termination_by R.length
decreasing_by all_goals (have := (pageI_fac _h).1; omega)
theorem goodR_some {part:Option (List Int)} {li:Nat} {hl:Bool} {r r':List Int} {g:PgI} (h:pageI r = some (g,r')):goodR part li hl r = (PgOk part li hl g ∧ goodR (cutS part g.segs).2 (mkLi g.hdr li) (mkHl g.hdr hl) r') := by
 rw [goodR]
 split
 · rename_i h2
   rw [h] at h2
   cases h2
 · rename_i h2
   rw [h] at h2
   cases h2
   rfl
theorem cutS_len:∀ (segs:List (List Int)) (part:Option (List Int)),(∀ x ∈ segs,x.length ≤ 255) → (cutS part segs).1.length ≤ segs.length ∧ parN (cutS part segs).2 ≤ parN part + 255 * segs.length
 | [],part,_ => ⟨Nat.le_refl _,by show parN part ≤ _; omega⟩
 | x :: r,part,h => by
   have hx := h x (List.mem_cons_self ..)
   have hr:∀ y ∈ r,y.length ≤ 255 := fun y hy => h y (List.mem_cons_of_mem _ hy)
   have h1 := cutS_len r (some (part.getD [] ++ x)) hr
   have h2 := cutS_len r none hr
   simp only [cutS,List.length_cons]
   split
   · refine ⟨by omega,?_⟩
     have := h1.2
     have e:parN (some (part.getD [] ++ x)) = parN part + x.length := by
       simp only [parN,Option.getD_some,List.length_append]
     omega
   · refine ⟨by show (cutS none r).1.length + 1 ≤ _; omega,?_⟩
     have := h2.2
     have e:parN none = 0 := rfl
     show parN (cutS none r).2 ≤ _
     omega
structure NpI (L:List Int) (A:List (List Int × List Int)) (Z:Option (List Int)) (d:Nat) (s:Sr) (q:Qt) (part:Option (List Int)) (li:Nat) (hl:Bool):Prop where
 hs:s.ok L
 hb:Byt (s.rem L)
 hq:q.ok
 hg:goodR part li hl (s.rem L)
 hA:q.all ++ (pkAll part (s.rem L)).1 = A
 hZ:(pkAll part (s.rem L)).2 = (Z,[])
 hd:q.all.length - q.n = d
 h1:27 * q.all.length + 256 * (s.rem L).length ≤ 256 * L.length
 h2:27 * parN part + 65280 * (s.rem L).length ≤ 65280 * L.length
theorem NpI.pg {L:List Int} {A:List (List Int × List Int)} {Z:Option (List Int)} {d:Nat} {s:Sr} {q:Qt} {part:Option (List Int)} {li:Nat} {hl:Bool} (H:NpI L A Z d s q part li hl) (hL:L.length ≤ 268435456) {g:PgI} {r':List Int} (hp:pageI (s.rem L) = some (g,r')) :
   PgOk part li hl g ∧ Byt g.hdr ∧ (∀ x ∈ g.segs,x.length ≤ 255) ∧ parN part + 255 * g.segs.length ≤ 1099511627776 ∧ q.all.length + g.segs.length ≤ 1099511627776 := by
 obtain ⟨f1,f2,f3⟩ := pageI_fac hp
 obtain ⟨f4,f5,f6⟩ := f3 H.hb
 have hg := H.hg
 rw [goodR_some hp] at hg
 have := H.h1
 have := H.h2
 exact ⟨hg.1,by rw [f2]; exact H.hb.take _,fun x hx => (f6 x hx).2,by omega,by omega⟩
theorem NpI.step {L:List Int} {A:List (List Int × List Int)} {Z:Option (List Int)} {d:Nat} {s:Sr} {q:Qt} {part:Option (List Int)} {li:Nat} {hl:Bool} (H:NpI L A Z d s q part li hl) {g:PgI} {r':List Int} (hp:pageI (s.rem L) = some (g,r'))
   {s':Sr} (hs:s'.ok L) (hr:s'.rem L = r') {q':Qt} (hq:q'.ok) (ha:q'.all = q.all ++ ((cutS part g.segs).1.map fun x => (x,g.hdr))) (hn:q'.n = q.n + (cutS part g.segs).1.length):NpI L A Z d s' q' (cutS part g.segs).2 (mkLi g.hdr li) (mkHl g.hdr hl) := by
 obtain ⟨f1,f2,f3⟩ := pageI_fac hp
 obtain ⟨f4,f5,f6⟩ := f3 H.hb
 have hg := H.hg
 have hA := H.hA
 have hZ := H.hZ
 rw [goodR_some hp] at hg
 rw [pkAll_some hp] at hA hZ
 have hc := cutS_len g.segs part fun x hx => (f6 x hx).2
 have hle := H.hq.nl
 have h1 := H.h1
 have h2 := H.h2
 have hd := H.hd
 have hal:q'.all.length = q.all.length + (cutS part g.segs).1.length := by rw [ha,List.length_append,List.length_map]
 subst hr
 refine ⟨hs,f4,hq,hg.2,?_,hZ,by omega,by omega,by omega⟩
 rw [ha,List.append_assoc]
 exact hA
def np0 (m:Bool) (L:List Int) (s:Sr) (q:Qt) (part:Option (List Int)) (li:Nat) (hl:Bool):List Blk :=
 [rdB 1 3 4 5 m,srcB 2 L s,datB L,tabB tabL,psB 6 7 q.q (part.map List.length) false li hl,.dead,q.Q 8 9,parB part,q.D,q.H]
def np1 (m:Bool) (L:List Int) (s:Sr) (q:Qt) (part:Option (List Int)) (li:Nat) (hl:Bool):List Blk :=
 [rdB 1 3 4 5 m,srcB 2 L s,datB L,tabB tabL,psB 10 11 q.q (part.map List.length) false li hl,.dead,.dead,.dead,.dead,.dead,q.Q 12 13,parB part,q.D,q.H]
def d10:List Blk := [.dead,.dead,.dead,.dead,.dead,.dead,.dead,.dead,.dead,.dead]
def NpJ (L:List Int) (A:List (List Int × List Int)) (Z:Option (List Int)) (d:Nat) := {x:Sr × Qt × Option (List Int) × Nat × Bool // NpI L A Z d x.1 x.2.1 x.2.2.1 x.2.2.2.1 x.2.2.2.2 ∧ x.2.1.n = 0}
def npR (L:List Int) (A:List (List Int × List Int)) (Z:Option (List Int)) (d:Nat) (m:Bool) (t:TypeId) (v:Nat → Value) (r:AV) (H:List Blk):Prop :=
 (∃ (s:Sr) (q:Qt) (part:Option (List Int)) (li:Nat) (hl:Bool) (x h:List Int),NpI L A Z (d + 1) s q part li hl ∧ q.all[d]? = some (x,h) ∧ A[d]? = some (x,h) ∧ r = .t [.c (.mem 12 d x.length),.c (.mrow 13 d 10 0 0),.c (.val .nilIface)] ∧ H = np1 m L s q part li hl) ∨
 (A.length = d ∧ ∃ k:Nat,(k < 12 ∧ k ≠ 3 ∧ k ≠ 6) ∧ (k = 0 ↔ parN Z = 0) ∧ r = .t [.c (.val (.slice none 0 0)),.c (.val (.pointer none)),.c (.val (.iface t (v k)))] ∧ H = d10)
theorem NpI.pop {L:List Int} {A:List (List Int × List Int)} {Z:Option (List Int)} {d:Nat} {s:Sr} {q:Qt} {part:Option (List Int)} {li:Nat} {hl:Bool} (H:NpI L A Z d s q part li hl) (h0:0 < q.n) :
   ∃ x h,q.all[d]? = some (x,h) ∧ A[d]? = some (x,h) ∧ q.zs[q.o]? = some (some (d,x.length)) ∧ ∀ p,NpI L A Z (d + 1) s ⟨q.all,q.zs,q.o + 1,q.n - 1,p⟩ part li hl := by
 obtain ⟨x,h,f1,f2,f3⟩ := Qt.pop H.hq (m := q.n - 1) (by omega)
 have hd := H.hd
 have hle := H.hq.nl
 rw [hd] at f1 f2
 refine ⟨x,h,f1,?_,f2,fun p => ⟨H.hs,H.hb,f3 p,H.hg,H.hA,H.hZ,?_,H.h1,H.h2⟩⟩
 · rw [← H.hA,List.getElem?_append_left (List.getElem?_eq_some_iff.1 f1).1]
   exact f1
 · show q.all.length - (q.n - 1) = d + 1
   omega
end Go.Proofs.YtokkphocaloelaaGreatDoor

end
section
namespace Go.Proofs.YtokkphocaloelaaGreatDoor
open Go Go.Vc
set_option maxRecDepth 100000
set_option maxHeartbeats 8000000

theorem qpE {σ:List Nat} {a b a' b':Nat} (h1:σ[a]? = some a') (h2:σ[b]? = some b') (o n p:Nat) (k:Option Nat) {li:Nat} {hl:Bool}:some (Blk.cells 125 [.tl a' 2 o n p,parV b' k,.val (.bool false),.val (.int .u32 (li:Nat)),.val (.bool hl)]) = some ((psB a b (.tl o n p) k false li hl).ren σ) := psE h1 h2 (.tl o n p) k false li hl
theorem parB_ren (σ:List Nat) (p:Option (List Int)):(parB p).ren σ = parB p := by cases p <;> rfl
theorem nextPacketQ {w0:World} {t:TypeId} {v:Nat → Value} (he:Errs w0 t v) (m:Bool) {L:List Int} (hLb:Byt L) (hL:L.length ≤ 268435456) {A:List (List Int × List Int)} {Z:Option (List Int)} {d:Nat} {s:Sr} {q:Qt} {part:Option (List Int)} {li:Nat} {hl:Bool} (hI:NpI L A Z d s q part li hl) :
   CallsA Tryz.prog w0 30 [.c (.ptr 0 0)] (np0 m L s q part li hl) (npR L A Z d m t v) := by
 refine callsA_of_ev c30_ ?_
 conv => whnf
 refine CallsA.liftKE (H0 := [rdB 1 3 4 5 m,.dead,.dead,.dead,.dead,.dead]) [0,1,2,3,4,5] [rdB 1 3 4 5 m,.dead,.dead,.dead,.dead,.dead,.dead,.dead,.dead,.dead] ⟨rfl,trivial⟩ rfl ⟨rdE (by rfl) (by rfl) (by rfl) (by rfl) m,rfl,l1 _,l2 _,l3 _,l4 _,l5 _,trivial⟩ rfl (getStateW w0 m) ?_
 rintro _ _ ⟨rfl,rfl⟩
 refine ⟨.o (.c (.ptr 4 0)),np0 m L s q part li hl,rfl,⟨rdB_ren (by rfl) (by rfl) (by rfl) (by rfl) m,rfl,rfl,rfl,rfl,rfl,rfl,rfl,rfl,rfl,trivial⟩,?_⟩
 conv => whnf
 refine Or.inl ?_
 conv => whnf
 refine ⟨fun g => ?_,fun g => ?_⟩
 · have g:0 < q.n := gt_t (a := q.n) (b := 0) g
   obtain ⟨xx,hh,p1,p2,p3,p4⟩ := NpI.pop hI g
   conv => whnf
   refine ⟨⟨by omega,by omega⟩,?_⟩
   conv => whnf
   refine ⟨some (d,xx.length),p3,?_⟩
   conv => whnf
   refine ⟨⟨by omega,by omega,by omega⟩,fun p => ?_⟩
   conv => whnf
   exact Or.inr ⟨[0,1,2,3,4,5,6,7,8,9,6,7,8,9],.t [.c (.mem 12 d xx.length),.c (.mrow 13 d 10 0 0),.c (.val .nilIface)],np1 m L s ⟨q.all,q.zs,q.o + 1,q.n - 1,p⟩ part li hl,⟨rfl,⟨rdE (by rfl) (by rfl) (by rfl) (by rfl) m,rfl,srcE (by rfl) _,rfl,rfl,rfl,rfl,rfl,qpE (by rfl) (by rfl) _ _ _ _,rfl,l5 _,lk 11 rfl rfl,lk 11 rfl rfl,lk 11 rfl rfl,lk 11 rfl rfl,rfl,rfl,embP rfl ⟨rfl,rfl,rfl,rfl,trivial⟩⟩,by cases part <;> rfl⟩,rfl,.inl ⟨s,⟨q.all,q.zs,q.o + 1,q.n - 1,p⟩,part,li,hl,xx,hh,p4 p,p1,p2,rfl,rfl⟩⟩
 have g:q.n = 0 := Nat.le_zero.1 (gt_f (a := q.n) (b := 0) g)
 conv => whnf
 refine ⟨NpJ L A Z d,fun j => ⟨[(0,.o (.c (.ptr 0 0))),(5,.o (.c (.ptr 4 0)))],np1 m L j.1.1 j.1.2.1 j.1.2.2.1 j.1.2.2.2.1 j.1.2.2.2.2⟩,fun j => (j.1.1.rem L).length,⟨⟨(s,q,part,li,hl),hI,g⟩,[0,1,2,3,4,5,6,7,8,9,6,7,8,9],⟨rfl,⟨rdE (by rfl) (by rfl) (by rfl) (by rfl) m,rfl,srcE (by rfl) _,rfl,rfl,rfl,rfl,rfl,psE (by rfl) (by rfl) _ _ _ _ _,rfl,l5 _,lk 10 rfl rfl,lk 10 rfl rfl,lk 10 rfl rfl,lk 10 rfl rfl,rfl,rfl,embP rfl ⟨rfl,rfl,rfl,rfl,trivial⟩⟩,by cases part <;> rfl⟩,rfl,rfl,trivial⟩,fun j => ?_⟩
 clear hI g
 obtain ⟨⟨s,q,part,li,hl⟩,hI,g⟩ := j
 have hI:NpI L A Z d s q part li hl := hI
 have g:q.n = 0 := g
 have hpd := pageDataW he m hI.hs hLb (by omega) hI.hb
 obtain ⟨G,hG⟩:∃ G,G = pageI (s.rem L) := ⟨_,rfl⟩
 rw [← hG] at hpd
 conv => whnf
 refine CallsA.liftKE (H0 := [rdB 1 3 4 5 m,srcB 2 L s,datB L,tabB tabL,.dead,.dead]) [0,1,2,3,4,5] [rdB 1 3 4 5 m,srcB 2 L s,datB L,tabB tabL,.dead,.dead,.dead,.dead,.dead,.dead,.dead,.dead,.dead,.dead] ⟨rfl,rfl,rfl,rfl,trivial⟩ rfl ⟨rdE (by rfl) (by rfl) (by rfl) (by rfl) m,rfl,srcE (by rfl) _,rfl,rfl,rfl,rfl,rfl,l4 _,l5 _,trivial⟩ rfl hpd ?_
 intro r H hrH
 cases G with
 | none =>
   obtain ⟨k,hk,hk0,rfl,rfl⟩ := hrH
   have hZ := hI.hZ
   have hA := hI.hA
   rw [pkAll_none hG.symm] at hZ hA
   simp only [Prod.mk.injEq] at hZ
   obtain ⟨hz1,hz2⟩ := hZ
   have hk1 := hk0 hz2
   subst hk1 hz1
   have hAd:A.length = d := by
     have := hI.hd
     rw [← hA,List.append_nil]
     omega
   refine ⟨.t [.c (.val (.slice none 0 0)),.c (.val (.slice none 0 0)),.c (.val (.pointer none)),.c (.val (.iface t (v 0)))],[rdB 1 3 4 5 m,.dead,.dead,tabB tabL,psB 10 11 q.q (part.map List.length) false li hl,.dead,.dead,.dead,.dead,.dead,q.Q 12 13,parB part,q.D,q.H],rfl,⟨rdB_ren (by rfl) (by rfl) (by rfl) (by rfl) m,rfl,rfl,rfl,rfl,rfl,rfl,rfl,rfl,rfl,rfl,rfl,rfl,rfl,trivial⟩,?_⟩
   conv => whnf
   refine Or.inl ?_
   conv => whnf
   refine ⟨fun _ => ?_,fun g => zT g⟩
   conv => whnf
   refine Or.inl ?_
   conv => whnf
   refine ⟨.iface t (v 0),?_⟩
   conv => whnf
   refine ⟨he.get 0 (by decide) (by decide) (by decide),?_⟩
   conv => whnf
   refine ⟨rfl,?_⟩
   conv => whnf
   refine ⟨_,he.eq0 0 (by decide) (by decide) (by decide),?_⟩
   conv => whnf
   refine ⟨fun _ => ?_,fun g => zT g⟩
   conv => whnf
   cases part with
   | none =>
     refine ⟨fun g => zF g,fun _ => ?_⟩
     conv => whnf
     exact Or.inr ⟨[0,1,2,3,4,5,6,7,8,9],.t [.c (.val (.slice none 0 0)),.c (.val (.pointer none)),.c (.val (.iface t (v 0)))],d10,⟨rfl,⟨l0 _,l1 _,l2 _,l3 _,l4 _,l5 _,lk 14 rfl rfl,lk 14 rfl rfl,lk 14 rfl rfl,lk 14 rfl rfl,trivial⟩,rfl⟩,rfl,.inr ⟨hAd,0,⟨by decide,by decide,by decide⟩,⟨fun _ => rfl,fun _ => rfl⟩,rfl,rfl⟩⟩
   | some x =>
     refine ⟨fun g2 => ?_,fun g2 => ?_⟩
     · have g2:x.length ≠ 0 := bne_t g2
       conv => whnf
       refine ⟨.iface t (v 1),?_⟩
       conv => whnf
       refine ⟨he.get 1 (by decide) (by decide) (by decide),?_⟩
       conv => whnf
       refine ⟨rfl,?_⟩
       conv => whnf
       exact Or.inr ⟨[0,1,2,3,4,5,6,7,8,9],.t [.c (.val (.slice none 0 0)),.c (.val (.pointer none)),.c (.val (.iface t (v 1)))],d10,⟨rfl,⟨l0 _,l1 _,l2 _,l3 _,l4 _,l5 _,lk 14 rfl rfl,lk 14 rfl rfl,lk 14 rfl rfl,lk 14 rfl rfl,trivial⟩,rfl⟩,rfl,.inr ⟨hAd,1,⟨by decide,by decide,by decide⟩,⟨fun c => absurd c (by decide),fun c => absurd c g2⟩,rfl,rfl⟩⟩
     · have g2:x.length = 0 := bne_f g2
       conv => whnf
       exact Or.inr ⟨[0,1,2,3,4,5,6,7,8,9],.t [.c (.val (.slice none 0 0)),.c (.val (.pointer none)),.c (.val (.iface t (v 0)))],d10,⟨rfl,⟨l0 _,l1 _,l2 _,l3 _,l4 _,l5 _,lk 14 rfl rfl,lk 14 rfl rfl,lk 14 rfl rfl,lk 14 rfl rfl,trivial⟩,rfl⟩,rfl,.inr ⟨hAd,0,⟨by decide,by decide,by decide⟩,⟨fun _ => g2,fun _ => rfl⟩,rfl,rfl⟩⟩
 | some z =>
   obtain ⟨⟨h,sizes,segs⟩,rest⟩ := z
   obtain ⟨s',hs',hr',rfl,rfl⟩ := hrH
   obtain ⟨e1,e2,e3,e4,e5⟩ := hI.pg hL hG.symm
   have hsz:sizes = lenI segs := e1.siz
   subst hsz
   have hl2:(lenI segs).length = segs.length := by unfold lenI; rw [List.length_map]
   have hqp := queuePkQ w0 m (q := q) (part := part) (li := li) (hl := hl) (h := h) (segs := segs) e2 e1.fla e1.seq e3 hI.hq e4 e5
   obtain ⟨C,hC⟩:∃ C,C = (cutS part segs).2 := ⟨_,rfl⟩
   have hst:∀ q':Qt,q'.ok → q'.all = q.all ++ ((cutS part segs).1.map fun x => (x,h)) → q'.n = q.n + (cutS part segs).1.length → NpI L A Z d s' q' C (mkLi h li) (mkHl h hl) := fun q' x1 x2 x3 => by
     rw [hC]
     exact hI.step hG.symm hs' hr' x1 x2 x3
   rw [← hC] at hqp
   refine ⟨.t [.c (.vec 16 segs.length),.c (.vec 15 (lenI segs).length),.c (.ptr 14 0),.c (.val .nilIface)],[rdB 1 3 4 5 m,srcB 2 L s',datB L,tabB tabL,psB 10 11 q.q (part.map List.length) false li hl,.dead,.dead,.dead,.dead,.dead,q.Q 12 13,parB part,q.D,q.H,hpB h,rowB (lenI segs),outB 17 segs,segB segs],rfl,⟨rdB_ren (by rfl) (by rfl) (by rfl) (by rfl) m,srcB_ren (by rfl) _,rfl,rfl,rfl,rfl,rfl,rfl,rfl,rfl,rfl,rfl,rfl,rfl,rfl,rfl,rfl,rfl,trivial⟩,?_⟩
   conv => whnf
   refine Or.inr ⟨Unit,fun _ => ⟨[(0,.o (.c (.ptr 0 0))),(5,.o (.c (.ptr 4 0))),(7,.o (.c (.vec 16 segs.length))),(8,.o (.c (.vec 15 segs.length))),(9,.o (.c (.ptr 14 0)))],[rdB 1 3 4 5 m,srcB 2 L s',datB L,tabB tabL,psB 10 11 q.q (part.map List.length) false li hl,.dead,.dead,.dead,.dead,.dead,q.Q 12 13,parB part,q.D,q.H,hpB h,rowB (lenI segs),outB 17 segs,segB segs]⟩,?_,fun _ => ?_⟩
   · conv => whnf
     refine ⟨fun g => zF g,fun _ => ?_⟩
     conv => whnf
     refine ⟨(),[0,1,2,3,4,5,6,7,8,9,10,11,12,13,14,15,16,17],⟨rfl,⟨rdE (by rfl) (by rfl) (by rfl) (by rfl) m,rfl,srcE (by rfl) _,rfl,rfl,rfl,rfl,rfl,psE (by rfl) (by rfl) _ _ _ _ _,rfl,l5 _,lk 18 rfl rfl,lk 18 rfl rfl,lk 18 rfl rfl,lk 18 rfl rfl,rfl,rfl,embP rfl ⟨rfl,rfl,rfl,rfl,rfl,rfl,rfl,rfl,rfl,rfl,rfl,rfl,trivial⟩⟩,by cases part <;> rfl⟩,rfl,rfl,rfl,?_,rfl,trivial⟩
     show some (AV.o (.c (CV.vec 15 (lenI segs).length))) = some (AV.o (.c (CV.vec 15 segs.length)))
     rw [hl2]
   conv => whnf
   refine Or.inr ⟨{q':Qt // NpI L A Z d s' q' C (mkLi h li) (mkHl h hl)},fun ⟨q',_⟩ => ⟨[(0,.o (.c (.ptr 0 0))),(5,.o (.c (.ptr 4 0)))],np1 m L s' q' C (mkLi h li) (mkHl h hl)⟩,?_,fun j => ?_⟩
   · conv => whnf
     cases part with
     | none =>
       refine CallsA.liftKE (H0 := qk0 m q none li hl h segs) [0,1,2,3,4,5,10,11,12,13,14,15,16,17] [rdB 1 3 4 5 m,.dead,.dead,.dead,psB 10 11 q.q (none.map List.length) false li hl,.dead,.dead,.dead,.dead,.dead,q.Q 12 13,parB none,q.D,q.H,hpB h,rowB (lenI segs),outB 17 segs,segB segs] ⟨rfl,rfl,rfl,rfl,rfl,rfl,rfl,rfl,rfl,trivial⟩ rfl ⟨rdE (by rfl) (by rfl) (by rfl) (by rfl) m,rfl,l1 _,l2 _,l3 _,psE (by rfl) (by rfl) _ _ _ _ _,rfl,l5 _,rfl,rfl,embP rfl ⟨rfl,rfl,rfl,rfl,rfl,rfl,rfl,rfl,rfl,rfl,rfl,rfl,trivial⟩⟩ rfl hqp ?_
       rintro _ _ ⟨rfl,q2,c1,c2,c3,rfl⟩
       refine ⟨.o (.c (.val .nilIface)),[rdB 1 3 4 5 m,srcB 2 L s',datB L,tabB tabL,psB 18 19 q2.q (C.map List.length) false (mkLi h li) (mkHl h hl),.dead,.dead,.dead,.dead,.dead,.dead,.dead,.dead,.dead,hpB h,.dead,.dead,.dead,q2.Q 20 21,parB C,q2.D,q2.H],rfl,⟨rdB_ren (by rfl) (by rfl) (by rfl) (by rfl) m,rfl,rfl,rfl,psB_ren (by rfl) (by rfl) _ _ _ _ _,rfl,rfl,rfl,rfl,rfl,rfl,rfl,rfl,rfl,rfl,rfl,rfl,rfl,rfl,parB_ren _ _,rfl,rfl,trivial⟩,?_⟩
       conv => whnf
       refine ⟨fun g => zF g,fun _ => ?_⟩
       conv => whnf
       exact ⟨⟨q2,hst q2 c1 c2 c3⟩,[0,1,2,3,4,5,6,7,8,9,18,19,20,21],⟨rfl,⟨rdE (by rfl) (by rfl) (by rfl) (by rfl) m,rfl,srcE (by rfl) _,rfl,rfl,rfl,rfl,rfl,psE (by rfl) (by rfl) _ _ _ _ _,rfl,l5 _,lk 22 rfl rfl,lk 22 rfl rfl,lk 22 rfl rfl,lk 22 rfl rfl,rfl,rfl,embP rfl ⟨rfl,rfl,rfl,rfl,trivial⟩⟩,by cases C <;> rfl⟩,rfl,rfl,trivial⟩
     | some y =>
       refine CallsA.liftKE (H0 := qk0 m q (some y) li hl h segs) [0,1,2,3,4,5,10,11,12,13,14,15,16,17] [rdB 1 3 4 5 m,.dead,.dead,.dead,psB 10 11 q.q ((some y).map List.length) false li hl,.dead,.dead,.dead,.dead,.dead,q.Q 12 13,parB (some y),q.D,q.H,hpB h,rowB (lenI segs),outB 17 segs,segB segs] ⟨rfl,rfl,rfl,rfl,rfl,rfl,rfl,rfl,rfl,rfl,trivial⟩ rfl ⟨rdE (by rfl) (by rfl) (by rfl) (by rfl) m,rfl,l1 _,l2 _,l3 _,psE (by rfl) (by rfl) _ _ _ _ _,rfl,l5 _,rfl,rfl,embP rfl ⟨rfl,rfl,rfl,rfl,rfl,rfl,rfl,rfl,rfl,rfl,rfl,rfl,trivial⟩⟩ rfl hqp ?_
       rintro _ _ ⟨rfl,q2,c1,c2,c3,rfl⟩
       refine ⟨.o (.c (.val .nilIface)),[rdB 1 3 4 5 m,srcB 2 L s',datB L,tabB tabL,psB 18 19 q2.q (C.map List.length) false (mkLi h li) (mkHl h hl),.dead,.dead,.dead,.dead,.dead,.dead,.dead,.dead,.dead,hpB h,.dead,.dead,.dead,q2.Q 20 21,parB C,q2.D,q2.H],rfl,⟨rdB_ren (by rfl) (by rfl) (by rfl) (by rfl) m,rfl,rfl,rfl,psB_ren (by rfl) (by rfl) _ _ _ _ _,rfl,rfl,rfl,rfl,rfl,rfl,rfl,rfl,rfl,rfl,rfl,rfl,rfl,rfl,parB_ren _ _,rfl,rfl,trivial⟩,?_⟩
       conv => whnf
       refine ⟨fun g => zF g,fun _ => ?_⟩
       conv => whnf
       exact ⟨⟨q2,hst q2 c1 c2 c3⟩,[0,1,2,3,4,5,6,7,8,9,18,19,20,21],⟨rfl,⟨rdE (by rfl) (by rfl) (by rfl) (by rfl) m,rfl,srcE (by rfl) _,rfl,rfl,rfl,rfl,rfl,psE (by rfl) (by rfl) _ _ _ _ _,rfl,l5 _,lk 22 rfl rfl,lk 22 rfl rfl,lk 22 rfl rfl,lk 22 rfl rfl,rfl,rfl,embP rfl ⟨rfl,rfl,rfl,rfl,trivial⟩⟩,by cases C <;> rfl⟩,rfl,rfl,trivial⟩
   obtain ⟨q2,hI2⟩ := j
   conv => whnf
   refine ⟨fun g2 => ?_,fun g2 => ?_⟩
   · have g2:0 < q2.n := gt_t (a := q2.n) (b := 0) g2
     obtain ⟨xx,hh,p1,p2,p3,p4⟩ := NpI.pop hI2 g2
     conv => whnf
     refine ⟨⟨by omega,by omega⟩,?_⟩
     conv => whnf
     refine ⟨some (d,xx.length),p3,?_⟩
     conv => whnf
     refine ⟨⟨by omega,by omega,by omega⟩,fun p => ?_⟩
     conv => whnf
     exact Or.inr ⟨[0,1,2,3,4,5,6,7,8,9,10,11,12,13],.t [.c (.mem 12 d xx.length),.c (.mrow 13 d 10 0 0),.c (.val .nilIface)],np1 m L s' ⟨q2.all,q2.zs,q2.o + 1,q2.n - 1,p⟩ C (mkLi h li) (mkHl h hl),⟨rfl,⟨rdE (by rfl) (by rfl) (by rfl) (by rfl) m,rfl,srcE (by rfl) _,rfl,rfl,rfl,rfl,rfl,qpE (by rfl) (by rfl) _ _ _ _,rfl,l5 _,lk 15 rfl rfl,lk 15 rfl rfl,lk 15 rfl rfl,lk 15 rfl rfl,rfl,rfl,embP rfl ⟨rfl,rfl,rfl,rfl,trivial⟩⟩,by cases C <;> rfl⟩,rfl,.inl ⟨s',⟨q2.all,q2.zs,q2.o + 1,q2.n - 1,p⟩,C,mkLi h li,mkHl h hl,xx,hh,p4 p,p1,p2,rfl,rfl⟩⟩
   have g2:q2.n = 0 := Nat.le_zero.1 (gt_f (a := q2.n) (b := 0) g2)
   conv => whnf
   have hlt:(s'.rem L).length < (s.rem L).length := by
     have := (pageI_fac hG.symm).1
     rw [hr']
     omega
   exact ⟨⟨(s',q2,C,mkLi h li,mkHl h hl),hI2,g2⟩,⟨[0,1,2,3,4,5,6,7,8,9,10,11,12,13],⟨rfl,⟨rdE (by rfl) (by rfl) (by rfl) (by rfl) m,rfl,srcE (by rfl) _,rfl,rfl,rfl,rfl,rfl,psE (by rfl) (by rfl) _ _ _ _ _,rfl,l5 _,lk 14 rfl rfl,lk 14 rfl rfl,lk 14 rfl rfl,lk 14 rfl rfl,rfl,rfl,embP rfl ⟨rfl,rfl,rfl,rfl,trivial⟩⟩,by cases C <;> rfl⟩,rfl,rfl,trivial⟩,hlt⟩
end Go.Proofs.YtokkphocaloelaaGreatDoor

end
section
namespace Go.Vc
def weak:List CV → List CV → Prop
 | [],[] => True
 | a :: r,b :: s => (a = b ∨ a = .any) ∧ weak r s
 | _,_ => False
theorem weak.refl:∀ l:List CV,weak l l
 | [] => trivial
 | _ :: r => ⟨.inl rfl,weak.refl r⟩
theorem weak.app:∀ {l2 l1:List CV},weak l2 l1 → ∀ s:List CV,weak (l2 ++ s) (l1 ++ s)
 | [],[],_,s => weak.refl s
 | _ :: _,_ :: _,h,s => ⟨h.1,weak.app h.2 s⟩
theorem weak.all2 {ρ:Ren}:∀ {l2 l1:List CV} {vs:List Value},weak l2 l1 → All2 (CV.R ρ) l1 vs → All2 (CV.R ρ) l2 vs
 | [],[],_,_,.nil => .nil
 | _ :: _,_ :: _,_,h,.cons a r => by
   refine .cons ?_ (weak.all2 h.2 r)
   rcases h.1 with rfl | rfl
   · exact a
   · exact CV.R.one a
theorem Ghost.recode {w0:World} {H:List Blk} (b:Nat) {α β:Type} {wr:Bool} {T:TypeId} {e:Enc α} {bs:List Nat} {wd:Nat} {xs:List α} (hb:H[b]? = some (.vec wr T e bs wd xs)) (e2:Enc β) (bs2:List Nat) (xs2:List β) (hl:xs2.length = xs.length) (h2:∀ x,(e2.f bs2 x).length = wd)
   (hw:weak (flat e2 bs2 xs2) (flat e bs xs)):Ghost w0 H (H.set b (.vec wr T e2 bs2 wd xs2)) := fun ρ w h => by
 have hlt:b < H.length := (List.getElem?_eq_some_iff.1 hb).1
 have hget:∀ (i:Nat) k,(H.set b (.vec wr T e2 bs2 wd xs2))[i]? = some k → (i = b ∧ k = .vec wr T e2 bs2 wd xs2) ∨ (i ≠ b ∧ H[i]? = some k) := by
   intro i k hi
   by_cases hib:i = b
   · subst hib
     rw [List.getElem?_set_self hlt] at hi
     exact .inl ⟨rfl,(Option.some.inj hi).symm⟩
   · rw [List.getElem?_set_ne (fun h => hib h.symm)] at hi
     exact .inr ⟨hib,hi⟩
 have hold:∀ (i:Nat) k,(H.set b (.vec wr T e2 bs2 wd xs2))[i]? = some k → k.live = true → ∃ k0,H[i]? = some k0 ∧ k0.live = true := by
   intro i k hi hl
   rcases hget i k hi with ⟨rfl,rfl⟩ | ⟨_,h⟩
   · exact ⟨_,hb,rfl⟩
   · exact ⟨k,h,hl⟩
 have himg:∀ g,image ρ (H.set b (.vec wr T e2 bs2 wd xs2)) g → image ρ H g := fun g ⟨i,k,hi,hl,hg⟩ => by
   obtain ⟨k0,a,c⟩ := hold i k hi hl
   exact ⟨i,k0,a,c,hg⟩
 have key:RH w0 ρ (H.set b (.vec wr T e2 bs2 wd xs2)) w := by
   refine ⟨by rw [List.length_set]; exact h.len,fun i k en hi he => ?_,fun i i' k k' g hi hi' l l' a a' => ?_,fun g hg => h.lo g (himg g hg),h.base⟩
   · rcases hget i k hi with ⟨rfl,rfl⟩ | ⟨_,h1⟩
     · obtain ⟨r0,_,r2⟩ := h.ok i _ en hb he
       refine ⟨r0,h2,?_⟩
       rcases r2 with ⟨q1,q2,q3⟩ | ⟨g,arr,fz,q1,q2,q3,q4,q5,⟨sp,q6,q7⟩,q8⟩
       · exact .inl ⟨q1,List.eq_nil_of_length_eq_zero (by rw [hl,q2]; rfl),q3⟩
       · exact .inr ⟨g,arr,fz,q1,q2,q3,by rw [hl]; exact q4,q5,⟨sp,weak.all2 (weak.app hw sp) q6,q7⟩,q8⟩
     · exact h.ok i k en h1 he
   · obtain ⟨k0,a1,a2⟩ := hold i k hi l
     obtain ⟨k0',b1,b2⟩ := hold i' k' hi' l'
     exact h.inj i i' k0 k0' g a1 b1 a2 b2 a a'
 exact ⟨[],by rw [List.append_nil]; exact key,fun g hg => by rw [List.append_nil] at hg; exact himg g hg⟩
theorem CallsA.ghostR {P:Program} {w0:World} {f:FuncId} {args:List A1} {H:List Blk} {R R':AV → List Blk → Prop} (h:CallsA P w0 f args H R) (hR:∀ r H',R r H' → ∃ H'',Ghost w0 H' H'' ∧ R' r H''):CallsA P w0 f args H R' := by
 refine ⟨h.cal,fun ρ w vs hRH hA => (h.out ρ w vs hRH hA).mono fun e w' he => ?_⟩
 obtain ⟨r,H',ρ',v,hr,rfl,hv,hRH',⟨u,rfl⟩,hfr,himg⟩ := he
 obtain ⟨H'',hg,hr2⟩ := hR r H' hr
 obtain ⟨t,h1,h2⟩ := hg _ w' hRH'
 exact ⟨r,H'',_,v,hr2,rfl,AV.R.more t hv,h1,⟨u ++ t,by rw [List.append_assoc]⟩,hfr,fun g hgi => himg g (h2 g hgi)⟩
end Go.Vc
namespace Go.Proofs.YtokkphocaloelaaGreatDoor
open Go Go.Vc
set_option maxRecDepth 100000
set_option maxHeartbeats 8000000

def quA:Blk := .vec true 127 encE [] 2 [none]
theorem nextPacket1Q {w0:World} {t:TypeId} {v:Nat → Value} (he:Errs w0 t v) {L:List Int} {s:Sr} (hs:s.ok L) (hLb:Byt L) (hL:L.length ≤ 1099511627776) (hrb:Byt (s.rem L))
   (ho:∀ g rest,pageI (s.rem L) = some (g,rest) → ∃ k,Opens (s.rem L) g rest k) :
   CallsA Tryz.prog w0 30 [.c (.ptr 0 0)] (rst8 L s) fun r H => match pageI (s.rem L) with
     | none => ∃ k:Nat,(k = 0 ∨ k = 1 ∨ k = 5) ∧ r = .t [.c (.val (.slice none 0 0)),.c (.val (.pointer none)),.c (.val (.iface t (v k)))] ∧ H = d8
     | some (g,rest) => ∃ (s':Sr) (p:Nat),s'.ok L ∧ s'.rem L = rest ∧ r = .t [.c (.vec 9 g.segs.flatten.length),.c (.ptr 10 0),.c (.val .nilIface)] ∧
         H = [rdB 1 3 4 5 false,srcB 2 L s',datB L,tabB tabL,psB 8 7 (.tl 1 0 p) none false (mkLi g.hdr 0) (mkHl g.hdr false),.dead,.dead,.dead,quA,rowB g.segs.flatten,hpB g.hdr] := by
 refine CallsA.ghostR (R := fun r H => match pageI (s.rem L) with
     | none => ∃ k:Nat,(k = 0 ∨ k = 1 ∨ k = 5) ∧ r = .t [.c (.val (.slice none 0 0)),.c (.val (.pointer none)),.c (.val (.iface t (v k)))] ∧ H = d8
     | some (g,rest) => ∃ (s':Sr) (p:Nat),s'.ok L ∧ s'.rem L = rest ∧ r = .t [.c (.vec 9 g.segs.flatten.length),.c (.ptr 10 0),.c (.val .nilIface)] ∧
         H = [rdB 1 3 4 5 false,srcB 2 L s',datB L,tabB tabL,psB 8 7 (.tl 1 0 p) none false (mkLi g.hdr 0) (mkHl g.hdr false),.dead,.dead,.dead,quB 9 10 g.segs.flatten.length,rowB g.segs.flatten,hpB g.hdr]) ?_ ?_
 rotate_left
 · intro r H hr
   revert hr
   cases pageI (s.rem L) with
   | none => exact fun hr => ⟨H,Ghost.refl w0 H,hr⟩
   | some x =>
     obtain ⟨g,rest⟩ := x
     rintro ⟨s',p,h1,h2,h3,rfl⟩
     exact ⟨_,Ghost.recode (e := encQ) (bs := [9,10]) (xs := [g.segs.flatten.length]) 8 rfl encE [] [none] rfl (encE_len _) ⟨.inr rfl,.inr rfl,trivial⟩,s',p,h1,h2,h3,rfl⟩
 have hpd := pageDataW he false hs hLb hL hrb
 obtain ⟨G,hG⟩:∃ G,G = pageI (s.rem L) := ⟨_,rfl⟩
 rw [← hG] at hpd ho ⊢
 refine callsA_of_ev c30_ ?_
 conv => whnf
 refine CallsA.liftK (H0 := [rdB 1 3 4 5 false,.dead,.dead,.dead,.dead,.dead]) [0,1,2,3,4,5] [rdB 1 3 4 5 false,.dead,.dead,.dead,.dead,.dead,.dead,.dead] ⟨rfl,trivial⟩ rfl ⟨rfl,rfl,l1 _,l2 _,l3 _,l4 _,l5 _,trivial⟩ rfl (getStateW w0 false) ?_
 rintro _ _ ⟨rfl,rfl⟩
 conv => whnf
 refine Or.inl ?_
 conv => whnf
 refine ⟨fun g => zF g,fun _ => ?_⟩
 conv => whnf
 refine ⟨Unit,fun _ => ⟨[(0,.o (.c (.ptr 0 0))),(5,.o (.c (.ptr 4 0)))],rst8 L s⟩,fun _ => 0,⟨(),[0,1,2,3,4,5,6,7],⟨rfl,⟨rfl,rfl,srcE (by rfl) _,rfl,rfl,rfl,rfl,rfl,rfl,rfl,l5 _,l6 _,l7 _,trivial⟩,rfl⟩,rfl,rfl,trivial⟩,fun _ => ?_⟩
 conv => whnf
 refine CallsA.liftK (H0 := [rdB 1 3 4 5 false,srcB 2 L s,datB L,tabB tabL,.dead,.dead]) [0,1,2,3,4,5] [rdB 1 3 4 5 false,srcB 2 L s,datB L,tabB tabL,.dead,.dead,.dead,.dead] ⟨rfl,rfl,rfl,rfl,trivial⟩ rfl ⟨rfl,rfl,srcE (by rfl) _,rfl,rfl,rfl,rfl,rfl,l4 _,l5 _,trivial⟩ rfl hpd ?_
 intro r H hrH
 cases G with
 | none =>
   obtain ⟨k,hk,hk0,rfl,rfl⟩ := hrH
   have hkk:k < 12 ∧ k ≠ 3 ∧ k ≠ 6 := by omega
   conv => whnf
   refine Or.inl ?_
   conv => whnf
   refine ⟨fun _ => ?_,fun g => zT g⟩
   conv => whnf
   refine Or.inl ?_
   conv => whnf
   refine ⟨.iface t (v 0),?_⟩
   conv => whnf
   refine ⟨he.get 0 (by decide) (by decide) (by decide),?_⟩
   conv => whnf
   refine ⟨rfl,?_⟩
   conv => whnf
   refine ⟨_,he.eq0 k hkk.1 hkk.2.1 hkk.2.2,?_⟩
   conv => whnf
   refine ⟨fun g => ?_,fun g => ?_⟩
   · conv => whnf
     refine ⟨fun g => zF g,fun _ => ?_⟩
     conv => whnf
     exact Or.inr ⟨[0,1,2,3,4,5,6,7],.t [.c (.val (.slice none 0 0)),.c (.val (.pointer none)),.c (.val (.iface t (v k)))],d8,⟨rfl,⟨l0 _,l1 _,l2 _,l3 _,l4 _,l5 _,l6 _,l7 _,trivial⟩,rfl⟩,rfl,k,hk,rfl,rfl⟩
   · conv => whnf
     exact Or.inr ⟨[0,1,2,3,4,5,6,7],.t [.c (.val (.slice none 0 0)),.c (.val (.pointer none)),.c (.val (.iface t (v k)))],d8,⟨rfl,⟨l0 _,l1 _,l2 _,l3 _,l4 _,l5 _,l6 _,l7 _,trivial⟩,rfl⟩,rfl,k,hk,rfl,rfl⟩
 | some x =>
   obtain ⟨g,rest⟩ := x
   obtain ⟨s',hs',hr',rfl,rfl⟩ := hrH
   obtain ⟨k,hop⟩ := ho g rest rfl
   obtain ⟨h,sizes,segs⟩ := g
   have hsz:sizes = lenI segs := hop.siz
   subst hsz
   have hone:OneP segs k := hop.one
   have hl1:segs.length = k + 1 := hone.len
   have hl2:(lenI segs).length = k + 1 := by unfold lenI; rw [List.length_map]; exact hl1
   conv => whnf
   refine Or.inr ⟨Unit,fun _ => ⟨[(0,.o (.c (.ptr 0 0))),(5,.o (.c (.ptr 4 0))),(7,.o (.c (.vec 10 (k + 1)))),(8,.o (.c (.vec 9 (k + 1)))),(9,.o (.c (.ptr 8 0)))],[rdB 1 3 4 5 false,srcB 2 L s',datB L,tabB tabL,ps0,.dead,.dead,.dead,hpB h,rowB (lenI segs),outB 11 segs,segB segs]⟩,?_,fun _ => ?_⟩
   · conv => whnf
     refine ⟨fun g => zF g,fun _ => ?_⟩
     conv => whnf
     refine ⟨(),[0,1,2,3,4,5,6,7,8,9,10,11],⟨rfl,⟨rfl,rfl,srcEE (by rfl) (by rfl) _,rfl,rfl,rfl,rfl,rfl,rfl,rfl,l5 _,l6 _,l7 _,rfl,rfl,rfl,rfl,rfl,rfl,rfl,rfl,trivial⟩,rfl⟩,rfl,rfl,?_,?_,rfl,trivial⟩
     · show some (AV.o (.c (CV.vec 10 segs.length))) = some (AV.o (.c (CV.vec 10 (k + 1))))
       rw [hl1]
     · show some (AV.o (.c (CV.vec 9 (lenI segs).length))) = some (AV.o (.c (CV.vec 9 (k + 1))))
       rw [hl2]
   conv => whnf
   refine Or.inr ⟨Unit,fun _ => ⟨[(0,.o (.c (.ptr 0 0))),(5,.o (.c (.ptr 4 0)))],[rdB 1 3 4 5 false,srcB 2 L s',datB L,tabB tabL,psB 12 7 (.vec 1) none false (mkLi h 0) (mkHl h false),.dead,.dead,.dead,.dead,.dead,.dead,.dead,quB 13 14 segs.flatten.length,rowB segs.flatten,hpB h]⟩,?_,fun _ => ?_⟩
   · conv => whnf
     refine CallsA.liftK (H0 := [rdB 1 3 4 5 false,.dead,.dead,.dead,psB 6 7 .none none false 0 false,.dead,.dead,.dead,hpB h,rowB (lenI segs),outB 11 segs,segB segs]) [0,1,2,3,4,5,6,7,8,9,10,11] [rdB 1 3 4 5 false,.dead,.dead,.dead,psB 6 7 .none none false 0 false,.dead,.dead,.dead,hpB h,rowB (lenI segs),outB 11 segs,segB segs] ⟨rfl,rfl,rfl,rfl,rfl,rfl,trivial⟩ rfl ⟨rfl,rfl,l1 _,l2 _,l3 _,rfl,rfl,l5 _,l6 _,l7 _,rfl,rfl,rfl,rfl,rfl,rfl,rfl,rfl,trivial⟩ rfl (queuePkW w0 false hop.byt (by rw [show bt h 5 = 2 from hop.fla]) hone) ?_
     rintro _ _ ⟨rfl,rfl⟩
     conv => whnf
     refine ⟨fun g => zF g,fun _ => ?_⟩
     conv => whnf
     exact ⟨(),[0,1,2,3,4,5,6,7,8,9,10,11,12,13,14],⟨rfl,⟨rfl,rfl,srcE (by rfl) _,rfl,rfl,rfl,rfl,rfl,rfl,rfl,l5 _,l6 _,l7 _,l8 _,l9 _,l10 _,l11 _,rfl,rfl,rfl,rfl,rfl,rfl,trivial⟩,rfl⟩,rfl,rfl,trivial⟩
   conv => whnf
   refine ⟨fun _ => ?_,fun g => zT g⟩
   conv => whnf
   refine ⟨⟨by decide,by decide⟩,?_⟩
   conv => whnf
   refine ⟨segs.flatten.length,rfl,?_⟩
   conv => whnf
   refine ⟨⟨by decide,by decide,by decide⟩,.inr fun p => ?_⟩
   conv => whnf
   exact Or.inr ⟨[0,1,2,3,4,5,6,7,12,13,14],.t [.c (.vec 9 segs.flatten.length),.c (.ptr 10 0),.c (.val .nilIface)],[rdB 1 3 4 5 false,srcB 2 L s',datB L,tabB tabL,psB 8 7 (.tl 1 0 p) none false (mkLi h 0) (mkHl h false),.dead,.dead,.dead,quB 9 10 segs.flatten.length,rowB segs.flatten,hpB h],⟨rfl,⟨rfl,rfl,srcE (by rfl) _,rfl,rfl,rfl,rfl,rfl,rfl,rfl,l5 _,l6 _,l7 _,rfl,rfl,rfl,rfl,rfl,rfl,trivial⟩,rfl⟩,rfl,s',p,hs',hr',rfl,rfl⟩
end Go.Proofs.YtokkphocaloelaaGreatDoor

end
section
namespace Go.Proofs.YtokkphocaloelaaGreatDoor
open Go Go.Vc
set_option maxRecDepth 100000
set_option maxHeartbeats 8000000

def hq8 (L:List Int) (s:Sr) (q:Qs) (h X:List Int):List Blk :=
 if bt X 18 = 0 then [rdB 1 3 4 5 false,srcB 2 L s,datB L,tabB tabL,psB 8 7 q none false (mkLi h 0) (mkHl h false),.dead,.dead,.dead,quA,ohB X]
 else [rdB 1 3 4 11 true,srcB 2 L s,datB L,tabB tabL,psB 8 7 q none false (mkLi h 0) (mkHl h false),.dead,.dead,.dead,quA,ohB X,rowB (X.drop 21),mpB 10 X]
def headQ (L:List Int) (r:AV) (H:List Blk) (t:TypeId) (v:Nat → Value) (pre:List A1) (a b:Nat) (G:Option (PgI × List Int)) (bad:List Blk) (f:Sr → Qs → PgI → List Blk):Prop :=
 match G with
 | none => ∃ k:Nat,(k < 12 ∧ k ≠ 3 ∧ k ≠ 6) ∧ r = .t (List.replicate b (.c (.val (.pointer none))) ++ [.c (.val (.iface t (v k)))]) ∧ H = bad
 | some (g,rest) =>
   (¬ okX g.segs.flatten ∧ ∃ k:Nat,(k < 12 ∧ k ≠ 3 ∧ k ≠ 6) ∧ r = .t (List.replicate b (.c (.val (.pointer none))) ++ [.c (.val (.iface t (v k)))]) ∧ H = bad) ∨
   (okX g.segs.flatten ∧ ∃ (s':Sr) (p:Nat),s'.ok L ∧ s'.rem L = rest ∧ r = .t (pre ++ [.c (.ptr a 0),.c (.val .nilIface)]) ∧ H = f s' (.tl 1 0 p) g)
theorem readHeadersQ {w0:World} {t:TypeId} {v:Nat → Value} (he:Errs w0 t v) {L:List Int} {s:Sr} (hs:s.ok L) (hLb:Byt L) (hL:L.length ≤ 1099511627776) (hrb:Byt (s.rem L))
   (ho:∀ g rest,pageI (s.rem L) = some (g,rest) → ∃ k,Opens (s.rem L) g rest k) :
   CallsA Tryz.prog w0 120 [.c (.ptr 0 0)] (rst8 L s) fun r H => headQ L r H t v [] 9 1 (pageI (s.rem L)) d8 fun s' q g => hq8 L s' q g.hdr g.segs.flatten := by
 have hnp := nextPacket1Q he hs hLb hL hrb ho
 obtain ⟨G,hG⟩:∃ G,G = pageI (s.rem L) := ⟨_,rfl⟩
 rw [← hG] at hnp ho ⊢
 refine callsA_of_ev c120_ ?_
 conv => whnf
 refine CallsA.liftE (H0 := rst8 L s) [0,1,2,3,4,5,6,7] rfl ⟨rfl,rfl,srcE (by rfl) _,rfl,rfl,rfl,rfl,rfl,rfl,rfl,l5 _,l6 _,l7 _,trivial⟩ rfl hnp ?_
 intro r H hrH
 cases G with
 | none =>
   obtain ⟨k,hk,rfl,rfl⟩ := hrH
   have hkk:k < 12 ∧ k ≠ 3 ∧ k ≠ 6 := by omega
   refine ⟨.t [.c (.val (.slice none 0 0)),.c (.val (.pointer none)),.c (.val (.iface t (v k)))],d8,rfl,⟨rfl,rfl,rfl,rfl,rfl,rfl,rfl,rfl,trivial⟩,?_⟩
   conv => whnf
   refine Or.inl ?_
   conv => whnf
   refine ⟨fun _ => ?_,fun g => zT g⟩
   conv => whnf
   exact Or.inr ⟨[0,1,2,3,4,5,6,7],.t [.c (.val (.pointer none)),.c (.val (.iface t (v k)))],d8,⟨rfl,⟨l0 _,l1 _,l2 _,l3 _,l4 _,l5 _,l6 _,l7 _,trivial⟩,rfl⟩,rfl,k,hkk,rfl,rfl⟩
 | some x =>
   obtain ⟨g,rest⟩ := x
   obtain ⟨s',p,hs',hr',rfl,rfl⟩ := hrH
   obtain ⟨k,hop⟩ := ho g rest rfl
   obtain ⟨h,sizes,segs⟩ := g
   have hbX:Byt segs.flatten := hop.bX
   have hlX:segs.flatten.length ≤ 65536 := hop.lX
   have hbh:Byt h := hop.byt
   have hlh:h.length = 27 := hop.len
   have hsg:h.take 4 = [79,103,103,83] := hop.sig
   have hfl:bt h 5 = 2 := hop.fla
   refine ⟨.t [.c (.vec 9 segs.flatten.length),.c (.ptr 10 0),.c (.val .nilIface)],[rdB 1 3 4 5 false,srcB 2 L s',datB L,tabB tabL,psB 8 7 (.tl 1 0 p) none false (mkLi h 0) (mkHl h false),.dead,.dead,.dead,quA,rowB segs.flatten,hpB h],rfl,⟨rfl,srcB_ren (by rfl) _,rfl,rfl,rfl,rfl,rfl,rfl,rfl,rfl,rfl,trivial⟩,?_⟩
   conv => whnf
   refine Or.inl ?_
   conv => whnf
   refine ⟨fun g => zF g,fun _ => ?_⟩
   conv => whnf
   refine CallsA.liftE (H0 := [hpB h,rowB segs.flatten]) [10,9] rfl ⟨rfl,rfl,rfl,rfl,trivial⟩ rfl (parseIDW he hbh hlh hbX hsg hfl) ?_
   rintro _ _ (⟨h1,rfl,rfl⟩ | ⟨h1,k1,hk1,rfl,rfl⟩)
   case inr =>
     have hkk := hk1.lt
     refine ⟨.t [.c (.val (.pointer none)),.c (.val (.iface t (v k1)))],[rdB 1 3 4 5 false,srcB 2 L s',datB L,tabB tabL,psB 8 7 (.tl 1 0 p) none false (mkLi h 0) (mkHl h false),.dead,.dead,.dead,quA,.dead,.dead],rfl,⟨rfl,rfl,rfl,rfl,rfl,rfl,rfl,rfl,rfl,rfl,rfl,trivial⟩,?_⟩
     conv => whnf
     refine Or.inl ?_
     conv => whnf
     refine ⟨fun _ => ?_,fun g => zT g⟩
     conv => whnf
     exact Or.inr ⟨[0,1,2,3,4,5,6,7],.t [.c (.val (.pointer none)),.c (.val (.iface t (v k1)))],d8,⟨rfl,⟨l0 _,l1 _,l2 _,l3 _,l4 _,l5 _,l6 _,l7 _,trivial⟩,rfl⟩,rfl,.inl ⟨fun hx => h1 ⟨hx.1,hx.2.1⟩,k1,⟨hkk.1,hkk.2.1,hkk.2.2.1⟩,rfl,rfl⟩⟩
   have hmX:bt segs.flatten 18 = 0 ∨ bt segs.flatten 18 = 1 ∨ bt segs.flatten 18 = 255 := hop.map h1.1 h1.2
   refine ⟨.t [.c (.ptr 11 0),.c (.val .nilIface)],[rdB 1 3 4 5 false,srcB 2 L s',datB L,tabB tabL,psB 8 7 (.tl 1 0 p) none false (mkLi h 0) (mkHl h false),.dead,.dead,.dead,quA,rowB segs.flatten,hpB h,ohB segs.flatten],rfl,⟨rfl,rfl,rfl,rfl,rfl,rfl,rfl,rfl,rfl,rfl,rfl,rfl,trivial⟩,?_⟩
   conv => whnf
   refine Or.inl ?_
   conv => whnf
   refine ⟨fun g => zF g,fun _ => ?_⟩
   conv => whnf
   refine Or.inl ?_
   conv => whnf
   refine CallsA.liftKE (H0 := [rdB 1 3 4 5 false,.dead,.dead,.dead,.dead,.dead,ohB segs.flatten,rowB segs.flatten]) [0,1,2,3,4,5,11,9] [rdB 1 3 4 5 false,.dead,.dead,.dead,.dead,.dead,.dead,.dead,.dead,rowB segs.flatten,.dead,ohB segs.flatten] ⟨rfl,rfl,rfl,trivial⟩ rfl ⟨rfl,rfl,l1 _,l2 _,l3 _,l4 _,l5 _,rfl,rfl,rfl,rfl,trivial⟩ rfl (parseMapW he hbX hlX hmX) ?_
   rintro _ _ (⟨h2,h3,rfl,rfl⟩ | ⟨h2,h3,rfl,rfl⟩ | ⟨h2,rfl,rfl⟩)
   · refine ⟨.o (.c (.val .nilIface)),[rdB 1 3 4 5 false,srcB 2 L s',datB L,tabB tabL,psB 8 7 (.tl 1 0 p) none false (mkLi h 0) (mkHl h false),.dead,.dead,.dead,quA,rowB segs.flatten,hpB h,ohB segs.flatten],rfl,⟨rfl,rfl,rfl,rfl,rfl,rfl,rfl,rfl,rfl,rfl,rfl,rfl,trivial⟩,?_⟩
     conv => whnf
     refine ⟨fun g => zF g,fun _ => ?_⟩
     conv => whnf
     exact Or.inr ⟨[0,1,2,3,4,5,6,7,8,11],.t [.c (.ptr 9 0),.c (.val .nilIface)],[rdB 1 3 4 5 false,srcB 2 L s',datB L,tabB tabL,psB 8 7 (.tl 1 0 p) none false (mkLi h 0) (mkHl h false),.dead,.dead,.dead,quA,ohB segs.flatten],⟨rfl,⟨rfl,rfl,srcE (by rfl) _,rfl,rfl,rfl,rfl,rfl,rfl,rfl,l5 _,l6 _,l7 _,rfl,rfl,rfl,rfl,trivial⟩,rfl⟩,rfl,.inr ⟨⟨h1.1,h1.2,.inl ⟨h2,h3⟩⟩,s',p,hs',hr',rfl,(if_pos h2).symm⟩⟩
   · refine ⟨.o (.c (.val .nilIface)),[rdB 1 3 4 13 true,srcB 2 L s',datB L,tabB tabL,psB 8 7 (.tl 1 0 p) none false (mkLi h 0) (mkHl h false),.dead,.dead,.dead,quA,rowB segs.flatten,hpB h,ohB segs.flatten,rowB (segs.flatten.drop 21),mpB 12 segs.flatten],rfl,⟨rfl,rfl,rfl,rfl,rfl,rfl,rfl,rfl,rfl,rfl,rfl,rfl,rfl,rfl,trivial⟩,?_⟩
     conv => whnf
     refine ⟨fun g => zF g,fun _ => ?_⟩
     conv => whnf
     exact Or.inr ⟨[0,1,2,3,4,5,6,7,8,11,12,13],.t [.c (.ptr 9 0),.c (.val .nilIface)],[rdB 1 3 4 11 true,srcB 2 L s',datB L,tabB tabL,psB 8 7 (.tl 1 0 p) none false (mkLi h 0) (mkHl h false),.dead,.dead,.dead,quA,ohB segs.flatten,rowB (segs.flatten.drop 21),mpB 10 segs.flatten],⟨rfl,⟨rfl,rfl,srcE (by rfl) _,rfl,rfl,rfl,rfl,rfl,rfl,rfl,l5 _,l6 _,l7 _,rfl,rfl,rfl,rfl,rfl,rfl,rfl,rfl,trivial⟩,rfl⟩,rfl,.inr ⟨⟨h1.1,h1.2,.inr ⟨h2,h3⟩⟩,s',p,hs',hr',rfl,(if_neg h2).symm⟩⟩
   · refine ⟨.o (.c (.val (.iface t (v 10)))),[.dead,srcB 2 L s',datB L,tabB tabL,psB 8 7 (.tl 1 0 p) none false (mkLi h 0) (mkHl h false),.dead,.dead,.dead,quA,.dead,hpB h,.dead],rfl,⟨rfl,rfl,rfl,rfl,rfl,rfl,rfl,rfl,rfl,rfl,rfl,rfl,trivial⟩,?_⟩
     conv => whnf
     refine ⟨fun _ => ?_,fun g => zT g⟩
     conv => whnf
     exact Or.inr ⟨[0,1,2,3,4,5,6,7],.t [.c (.val (.pointer none)),.c (.val (.iface t (v 10)))],d8,⟨rfl,d8emb 4 rfl,rfl⟩,rfl,.inl ⟨fun hx => h2 hx.2.2,10,⟨by decide,by decide,by decide⟩,rfl,rfl⟩⟩
end Go.Proofs.YtokkphocaloelaaGreatDoor

end
section
namespace Go.Proofs.YtokkphocaloelaaGreatDoor
open Go Go.Vc
set_option maxRecDepth 100000
set_option maxHeartbeats 8000000

def nwQ (L:List Int) (s:Sr) (q:Qs) (h X:List Int):List Blk :=
 if bt X 18 = 0 then [datB L,srcB 0 L s,rdB 1 3 4 5 false,tabB tabL,psB 6 7 q none false (mkLi h 0) (mkHl h false),.dead,quA,.dead,ohB X,.dead]
 else [datB L,srcB 0 L s,rdB 1 3 4 5 true,tabB tabL,psB 6 7 q none false (mkLi h 0) (mkHl h false),mpB 9 X,quA,.dead,ohB X,rowB (X.drop 21)]
def opQ (L:List Int) (s:Sr) (q:Qs) (h X:List Int):List Blk :=
 if bt X 18 = 0 then [rdB 1 3 4 5 false,srcB 2 L s,datB L,tabB tabL,psB 6 7 q none false (mkLi h 0) (mkHl h false),.dead,quA,.dead,ohB X,.dead]
 else [rdB 1 3 4 5 true,srcB 2 L s,datB L,tabB tabL,psB 6 7 q none false (mkLi h 0) (mkHl h false),mpB 9 X,quA,.dead,ohB X,rowB (X.drop 21)]
theorem newWithQ {w0:World} {t:TypeId} {v:Nat → Value} (he:Errs w0 t v) {L:List Int} (hLb:Byt L) (hL:L.length ≤ 1099511627776)
   (ho:∀ g rest,pageI L = some (g,rest) → ∃ k,Opens L g rest k) :
   CallsA Tryz.prog w0 90 [.c (.ifc 118 1 0),.c (.val (.bool true))] [datB L,srcB 0 L none] fun r H => headQ L r H t v [.c (.ptr 2 0)] 8 2 (pageI L) [.dead,.dead] fun s' q g => nwQ L s' q g.hdr g.segs.flatten := by
 have hrh := readHeadersQ he (s := none) trivial hLb hL hLb ho
 rw [show Sr.rem L none = L from rfl] at hrh
 obtain ⟨G,hG⟩:∃ G,G = pageI L := ⟨_,rfl⟩
 rw [← hG] at hrh ho ⊢
 refine callsA_of_ev c90_ ?_
 conv => whnf
 refine Or.inr ⟨Unit,fun _ => ⟨[(0,.o (.c (.ifc 118 1 0))),(1,.o (.c (.val (.bool true))))],[datB L,srcB 0 L none,.dead,.dead,.dead]⟩,?_,fun _ => ?_⟩
 · conv => whnf
   refine ⟨fun g => zF g,fun _ => ?_⟩
   conv => whnf
   exact ⟨(),[0,1,0,0,0],⟨rfl,⟨rfl,rfl,rfl,rfl,l0 _,l0 _,l0 _,trivial⟩,rfl⟩,rfl,rfl,trivial⟩
 conv => whnf
 refine CallsA.liftE (H0 := []) [] rfl trivial rfl (genTableW w0) ?_
 rintro _ _ ⟨rfl,rfl⟩
 refine ⟨.o (.c (.ptr 5 0)),[datB L,srcB 0 L none,.dead,.dead,.dead,tabB tabL],rfl,⟨rfl,rfl,rfl,rfl,rfl,rfl,trivial⟩,?_⟩
 conv => whnf
 refine CallsA.liftE (H0 := rst8 L none) [7,1,0,5,6,2,3,4] rfl ⟨rfl,rfl,rfl,rfl,rfl,rfl,rfl,rfl,rfl,rfl,l2 _,l3 _,l4 _,trivial⟩ rfl hrh ?_
 intro r H hrH
 cases G with
 | none =>
   obtain ⟨k,hk,rfl,rfl⟩ := hrH
   refine ⟨.t [.c (.val (.pointer none)),.c (.val (.iface t (v k)))],d8,rfl,⟨rfl,rfl,rfl,rfl,rfl,rfl,rfl,rfl,trivial⟩,?_⟩
   conv => whnf
   refine Or.inl ?_
   conv => whnf
   refine ⟨fun _ => ?_,fun g => zT g⟩
   conv => whnf
   exact Or.inr ⟨[0,1],.t [.c (.val (.pointer none)),.c (.val (.pointer none)),.c (.val (.iface t (v k)))],[.dead,.dead],⟨rfl,⟨l0 _,l1 _,trivial⟩,rfl⟩,rfl,k,hk,rfl,rfl⟩
 | some x =>
   obtain ⟨g,rest⟩ := x
   rcases hrH with ⟨h1,k,hk,rfl,rfl⟩ | ⟨h1,s',p,hs',hr',rfl,rfl⟩
   · refine ⟨.t [.c (.val (.pointer none)),.c (.val (.iface t (v k)))],d8,rfl,⟨rfl,rfl,rfl,rfl,rfl,rfl,rfl,rfl,trivial⟩,?_⟩
     conv => whnf
     refine Or.inl ?_
     conv => whnf
     refine ⟨fun _ => ?_,fun g => zT g⟩
     conv => whnf
     exact Or.inr ⟨[0,1],.t [.c (.val (.pointer none)),.c (.val (.pointer none)),.c (.val (.iface t (v k)))],[.dead,.dead],⟨rfl,⟨l0 _,l1 _,trivial⟩,rfl⟩,rfl,.inl ⟨h1,k,hk,rfl,rfl⟩⟩
   · unfold hq8 nwQ headQ
     by_cases h18:bt g.segs.flatten 18 = 0
     · simp only [if_pos h18]
       refine ⟨.t [.c (.ptr 9 0),.c (.val .nilIface)],[datB L,srcB 0 L s',.dead,.dead,.dead,tabB tabL,psB 8 4 (.tl 1 0 p) none false (mkLi g.hdr 0) (mkHl g.hdr false),rdB 1 5 6 2 false,quA,ohB g.segs.flatten],rfl,⟨rfl,srcB_ren (by rfl) _,rfl,rfl,rfl,rfl,rfl,rfl,rfl,rfl,trivial⟩,?_⟩
       conv => whnf
       refine Or.inl ?_
       conv => whnf
       refine ⟨fun g => zF g,fun _ => ?_⟩
       conv => whnf
       exact Or.inr ⟨[0,1,7,5,6,2,8,4,9,3],.t [.c (.ptr 2 0),.c (.ptr 8 0),.c (.val .nilIface)],[datB L,srcB 0 L s',rdB 1 3 4 5 false,tabB tabL,psB 6 7 (.tl 1 0 p) none false (mkLi g.hdr 0) (mkHl g.hdr false),.dead,quA,.dead,ohB g.segs.flatten,.dead],⟨rfl,⟨rfl,rfl,srcE (by rfl) _,rfl,rfl,rfl,rfl,rfl,rfl,rfl,l2 _,rfl,rfl,l4 _,rfl,rfl,l3 _,trivial⟩,rfl⟩,rfl,.inr ⟨h1,s',p,hs',hr',rfl,rfl⟩⟩
     · simp only [if_neg h18]
       refine ⟨.t [.c (.ptr 9 0),.c (.val .nilIface)],[datB L,srcB 0 L s',.dead,.dead,.dead,tabB tabL,psB 8 4 (.tl 1 0 p) none false (mkLi g.hdr 0) (mkHl g.hdr false),rdB 1 5 6 11 true,quA,ohB g.segs.flatten,rowB (g.segs.flatten.drop 21),mpB 10 g.segs.flatten],rfl,⟨rfl,srcB_ren (by rfl) _,rfl,rfl,rfl,rfl,rfl,rfl,rfl,rfl,rfl,rfl,trivial⟩,?_⟩
       conv => whnf
       refine Or.inl ?_
       conv => whnf
       refine ⟨fun g => zF g,fun _ => ?_⟩
       conv => whnf
       exact Or.inr ⟨[0,1,7,5,6,11,8,4,9,10],.t [.c (.ptr 2 0),.c (.ptr 8 0),.c (.val .nilIface)],[datB L,srcB 0 L s',rdB 1 3 4 5 true,tabB tabL,psB 6 7 (.tl 1 0 p) none false (mkLi g.hdr 0) (mkHl g.hdr false),mpB 9 g.segs.flatten,quA,.dead,ohB g.segs.flatten,rowB (g.segs.flatten.drop 21)],⟨rfl,⟨rfl,rfl,srcE (by rfl) _,rfl,rfl,rfl,rfl,rfl,rfl,rfl,rfl,rfl,rfl,rfl,l4 _,rfl,rfl,rfl,rfl,trivial⟩,rfl⟩,rfl,.inr ⟨h1,s',p,hs',hr',rfl,rfl⟩⟩
theorem newWith0Q {w0:World} {t:TypeId} {v:Nat → Value} (he:Errs w0 t v) {L:List Int} (hLb:Byt L) (hL:L.length ≤ 1099511627776)
   (ho:∀ g rest,pageI L = some (g,rest) → ∃ k,Opens L g rest k) :
   CallsA Tryz.prog w0 52 [.c (.ifc 118 1 0)] [datB L,srcB 0 L none] fun r H => headQ L r H t v [.c (.ptr 2 0)] 8 2 (pageI L) [.dead,.dead] fun s' q g => nwQ L s' q g.hdr g.segs.flatten := by
 have hrh := newWithQ he hLb hL ho
 obtain ⟨G,hG⟩:∃ G,G = pageI L := ⟨_,rfl⟩
 rw [← hG] at hrh ⊢
 refine callsA_of_ev c52_ ?_
 conv => whnf
 refine CallsA.liftE (H0 := [datB L,srcB 0 L none]) [0,1] rfl ⟨rfl,rfl,rfl,rfl,trivial⟩ rfl hrh ?_
 intro r H hrH
 cases G with
 | none =>
   obtain ⟨k,hk,rfl,rfl⟩ := hrH
   refine ⟨.t [.c (.val (.pointer none)),.c (.val (.pointer none)),.c (.val (.iface t (v k)))],[.dead,.dead],rfl,⟨rfl,rfl,trivial⟩,?_⟩
   conv => whnf
   exact Or.inr ⟨[0,1],.t [.c (.val (.pointer none)),.c (.val (.pointer none)),.c (.val (.iface t (v k)))],[.dead,.dead],⟨rfl,⟨l0 _,l1 _,trivial⟩,rfl⟩,rfl,k,hk,rfl,rfl⟩
 | some x =>
   obtain ⟨g,rest⟩ := x
   rcases hrH with ⟨h1,k,hk,rfl,rfl⟩ | ⟨h1,s',p,hs',hr',rfl,rfl⟩
   · refine ⟨.t [.c (.val (.pointer none)),.c (.val (.pointer none)),.c (.val (.iface t (v k)))],[.dead,.dead],rfl,⟨rfl,rfl,trivial⟩,?_⟩
     conv => whnf
     exact Or.inr ⟨[0,1],.t [.c (.val (.pointer none)),.c (.val (.pointer none)),.c (.val (.iface t (v k)))],[.dead,.dead],⟨rfl,⟨l0 _,l1 _,trivial⟩,rfl⟩,rfl,.inl ⟨h1,k,hk,rfl,rfl⟩⟩
   · unfold nwQ headQ
     by_cases h18:bt g.segs.flatten 18 = 0
     · simp only [if_pos h18]
       refine ⟨.t [.c (.ptr 2 0),.c (.ptr 8 0),.c (.val .nilIface)],[datB L,srcB 0 L s',rdB 1 3 4 5 false,tabB tabL,psB 6 7 (.tl 1 0 p) none false (mkLi g.hdr 0) (mkHl g.hdr false),.dead,quA,.dead,ohB g.segs.flatten,.dead],rfl,⟨rfl,srcB_ren (by rfl) _,rfl,rfl,rfl,rfl,rfl,rfl,rfl,rfl,trivial⟩,?_⟩
       conv => whnf
       exact Or.inl (.inr ⟨h1,s',p,hs',hr',rfl,rfl⟩)
     · simp only [if_neg h18]
       refine ⟨.t [.c (.ptr 2 0),.c (.ptr 8 0),.c (.val .nilIface)],[datB L,srcB 0 L s',rdB 1 3 4 5 true,tabB tabL,psB 6 7 (.tl 1 0 p) none false (mkLi g.hdr 0) (mkHl g.hdr false),mpB 9 g.segs.flatten,quA,.dead,ohB g.segs.flatten,rowB (g.segs.flatten.drop 21)],rfl,⟨rfl,srcB_ren (by rfl) _,rfl,rfl,rfl,rfl,rfl,rfl,rfl,rfl,trivial⟩,?_⟩
       conv => whnf
       exact Or.inl (.inr ⟨h1,s',p,hs',hr',rfl,rfl⟩)
theorem iOpenQ {w0:World} {t:TypeId} {v:Nat → Value} (he:Errs w0 t v) {b:ByteArray} (hs:b.size ≤ 1099511627776)
   (ho:∀ g rest,pageI (bytesOf b) = some (g,rest) → ∃ k,Opens (bytesOf b) g rest k) :
   CallsA Tryz.prog w0 29 [.c (.val (.string b))] [] fun r H => headQ (bytesOf b) r H t v [.c (.ptr 0 0)] 8 2 (pageI (bytesOf b)) [] fun s' q g => opQ (bytesOf b) s' q g.hdr g.segs.flatten := by
 have hLb:Byt (bytesOf b) := byt_bytes b
 have hL:(bytesOf b).length ≤ 1099511627776 := by rw [bytesOf_len]; exact hs
 have hrh := newWith0Q he hLb hL ho
 obtain ⟨G,hG⟩:∃ G,G = pageI (bytesOf b) := ⟨_,rfl⟩
 rw [← hG] at hrh ho ⊢
 refine callsA_of_ev c29_ ?_
 conv => whnf
 refine ⟨by omega,?_⟩
 conv => whnf
 refine CallsA.liftE (H0 := [datB (bytesOf b),srcB 0 (bytesOf b) none]) [0,1] rfl ⟨rfl,rfl,rfl,rfl,trivial⟩ rfl hrh ?_
 intro r H hrH
 cases G with
 | none =>
   obtain ⟨k,hk,rfl,rfl⟩ := hrH
   refine ⟨.t [.c (.val (.pointer none)),.c (.val (.pointer none)),.c (.val (.iface t (v k)))],[.dead,.dead],rfl,⟨rfl,rfl,trivial⟩,?_⟩
   conv => whnf
   refine Or.inl ?_
   conv => whnf
   refine ⟨fun _ => ?_,fun g => zT g⟩
   conv => whnf
   exact Or.inr ⟨[],.t [.c (.val (.pointer none)),.c (.val (.pointer none)),.c (.val (.iface t (v k)))],[],⟨rfl,trivial,rfl⟩,rfl,k,hk,rfl,rfl⟩
 | some x =>
   obtain ⟨g,rest⟩ := x
   rcases hrH with ⟨h1,k,hk,rfl,rfl⟩ | ⟨h1,s',p,hs',hr',rfl,rfl⟩
   · refine ⟨.t [.c (.val (.pointer none)),.c (.val (.pointer none)),.c (.val (.iface t (v k)))],[.dead,.dead],rfl,⟨rfl,rfl,trivial⟩,?_⟩
     conv => whnf
     refine Or.inl ?_
     conv => whnf
     refine ⟨fun _ => ?_,fun g => zT g⟩
     conv => whnf
     exact Or.inr ⟨[],.t [.c (.val (.pointer none)),.c (.val (.pointer none)),.c (.val (.iface t (v k)))],[],⟨rfl,trivial,rfl⟩,rfl,.inl ⟨h1,k,hk,rfl,rfl⟩⟩
   · unfold nwQ opQ headQ
     by_cases h18:bt g.segs.flatten 18 = 0
     · simp only [if_pos h18]
       refine ⟨.t [.c (.ptr 2 0),.c (.ptr 8 0),.c (.val .nilIface)],[datB (bytesOf b),srcB 0 (bytesOf b) s',rdB 1 3 4 5 false,tabB tabL,psB 6 7 (.tl 1 0 p) none false (mkLi g.hdr 0) (mkHl g.hdr false),.dead,quA,.dead,ohB g.segs.flatten,.dead],rfl,⟨rfl,srcB_ren (by rfl) _,rfl,rfl,rfl,rfl,rfl,rfl,rfl,rfl,trivial⟩,?_⟩
       conv => whnf
       refine Or.inl ?_
       conv => whnf
       refine ⟨fun g => zF g,fun _ => ?_⟩
       conv => whnf
       exact Or.inr ⟨[2,1,0,3,4,5,6,7,8,9],.t [.c (.ptr 0 0),.c (.ptr 8 0),.c (.val .nilIface)],[rdB 1 3 4 5 false,srcB 2 (bytesOf b) s',datB (bytesOf b),tabB tabL,psB 6 7 (.tl 1 0 p) none false (mkLi g.hdr 0) (mkHl g.hdr false),.dead,quA,.dead,ohB g.segs.flatten,.dead],⟨rfl,⟨rfl,rfl,srcE (by rfl) _,rfl,rfl,rfl,rfl,rfl,rfl,rfl,l5 _,rfl,rfl,l7 _,rfl,rfl,l9 _,trivial⟩,rfl⟩,rfl,.inr ⟨h1,s',p,hs',hr',rfl,rfl⟩⟩
     · simp only [if_neg h18]
       refine ⟨.t [.c (.ptr 2 0),.c (.ptr 8 0),.c (.val .nilIface)],[datB (bytesOf b),srcB 0 (bytesOf b) s',rdB 1 3 4 5 true,tabB tabL,psB 6 7 (.tl 1 0 p) none false (mkLi g.hdr 0) (mkHl g.hdr false),mpB 9 g.segs.flatten,quA,.dead,ohB g.segs.flatten,rowB (g.segs.flatten.drop 21)],rfl,⟨rfl,srcB_ren (by rfl) _,rfl,rfl,rfl,rfl,rfl,rfl,rfl,rfl,trivial⟩,?_⟩
       conv => whnf
       refine Or.inl ?_
       conv => whnf
       refine ⟨fun g => zF g,fun _ => ?_⟩
       conv => whnf
       exact Or.inr ⟨[2,1,0,3,4,5,6,7,8,9],.t [.c (.ptr 0 0),.c (.ptr 8 0),.c (.val .nilIface)],[rdB 1 3 4 5 true,srcB 2 (bytesOf b) s',datB (bytesOf b),tabB tabL,psB 6 7 (.tl 1 0 p) none false (mkLi g.hdr 0) (mkHl g.hdr false),mpB 9 g.segs.flatten,quA,.dead,ohB g.segs.flatten,rowB (g.segs.flatten.drop 21)],⟨rfl,⟨rfl,rfl,srcE (by rfl) _,rfl,rfl,rfl,rfl,rfl,rfl,rfl,rfl,rfl,rfl,rfl,l7 _,rfl,rfl,rfl,rfl,trivial⟩,rfl⟩,rfl,.inr ⟨h1,s',p,hs',hr',rfl,rfl⟩⟩
end Go.Proofs.YtokkphocaloelaaGreatDoor

end
section
namespace Go.Proofs.YtokkphocaloelaaGreatDoor
open Go Go.Vc
set_option maxRecDepth 100000
set_option maxHeartbeats 8000000

theorem iOpenQ2 {w0:World} {t:TypeId} {v:Nat → Value} (he:Errs w0 t v) {b:ByteArray} (hs:b.size ≤ 1099511627776)
   (ho:∀ g rest,pageI (bytesOf b) = some (g,rest) → ∃ k,Opens (bytesOf b) g rest k) {g0:PgI} {L0:List Int} (hp:pageI (bytesOf b) = some (g0,L0)) (hok:okX g0.segs.flatten) :
   CallsA Tryz.prog w0 29 [.c (.val (.string b))] [] fun r H => ∃ (s':Sr) (p:Nat) (m:Bool) (B5 B8 B9:Blk),s'.ok (bytesOf b) ∧ s'.rem (bytesOf b) = L0 ∧ r = .t [.c (.ptr 0 0),.c (.ptr 8 0),.c (.val .nilIface)] ∧
     H = [rdB 1 3 4 5 m,srcB 2 (bytesOf b) s',datB (bytesOf b),tabB tabL,psB 6 7 (.tl 1 0 p) none false (mkLi g0.hdr 0) (mkHl g0.hdr false),B5,quQ 10 11 [none],.dead,B8,B9,segB [],fhB []] := by
 have hop := iOpenQ he hs ho
 rw [hp] at hop
 refine CallsA.ghostR hop ?_
 rintro r H (⟨h1,_⟩ | ⟨h1,s',p,hs',hr',rfl,rfl⟩)
 · exact absurd hok h1
 · unfold opQ
   by_cases h18:bt g0.segs.flatten 18 = 0
   · simp only [if_pos h18]
     exact ⟨_,Ghost.trans (Ghost.fam0 w0 _ 5 (encI .u8) 1 (by decide) (fun _ => rfl)) (Ghost.trans (Ghost.fam0 w0 _ 80 encH 10 (by decide) (fun _ => rfl)) (Ghost.recode (e := encE) (bs := []) (xs := [none]) 6 rfl encE [10,11] [none] rfl (encE_len _) ⟨.inl rfl,.inl rfl,trivial⟩)),s',p,false,_,_,_,hs',hr',rfl,rfl⟩
   · simp only [if_neg h18]
     exact ⟨_,Ghost.trans (Ghost.fam0 w0 _ 5 (encI .u8) 1 (by decide) (fun _ => rfl)) (Ghost.trans (Ghost.fam0 w0 _ 80 encH 10 (by decide) (fun _ => rfl)) (Ghost.recode (e := encE) (bs := []) (xs := [none]) 6 rfl encE [10,11] [none] rfl (encE_len _) ⟨.inl rfl,.inl rfl,trivial⟩)),s',p,true,_,_,_,hs',hr',rfl,rfl⟩
def pkM (a:List Int × List Int):ByteArray × Nat := (strOf a.1,le ((a.2.drop 6).take 8))
theorem apC {α:Type} {l:List α} {n k:Nat} (x:α) (h:l.length = n + 1) (hn:n ≤ 1099511627776) (hk:k ≤ 24):(l ++ [x]).length * k ≤ 140737488355328 := by
 rw [List.length_append,h,List.length_singleton]
 have:(n + 1 + 1) * k ≤ (n + 1 + 1) * 24 := Nat.mul_le_mul_left _ hk
 omega
theorem apD {α:Type} {l:List α} {n:Nat} (x:α) (h:l.length = n + 1) (hn:n ≤ 1099511627776):(l ++ [x]).length ≤ 140737488355328 := by
 rw [List.length_append,h,List.length_singleton]
 omega
def pcE:Env := [(2,.o (.c (.ptr 0 0))),(3,.o (.c (.ptr 1 0))),(4,.o (.c (.ptr 2 0))),(5,.o (.c (.ptr 3 0)))]
def pcC (i:Nat) (l:List (ByteArray × Nat)):List Blk := [.cells 31 [pkV i l],.cells 32 [pkV (i + 1) l],.cells 3 [.val (.int .i64 ((0:Nat):Int))]]
def pcS (m:Bool) (L:List Int) (s:Sr) (q:Qt) (part:Option (List Int)) (li:Nat) (hl:Bool):List Blk := [rdB 4 6 7 8 m,srcB 5 L s,datB L,tabB tabL,psB 9 10 q.q (part.map List.length) false li hl,.dead,q.Q 11 12,parB part,q.D,q.H]
def PcI (L:List Int) (A:List (List Int × List Int)) (Z:Option (List Int)) := {x:(Nat × List (ByteArray × Nat)) × Sr × Qt × Option (List Int) × Nat × Bool // NpI L A Z x.1.1 x.2.1 x.2.2.1 x.2.2.2.1 x.2.2.2.2.1 x.2.2.2.2.2 ∧ x.1.2 = (A.take x.1.1).map pkM}
def pcSt (m:Bool) (L:List Int) (A:List (List Int × List Int)) (Z:Option (List Int)):PcI L A Z → S
 | ⟨((_,l),s,q,part,li,hl),_⟩ => ⟨pcE,pcC 13 l ++ pcS m L s q part li hl ++ pkH l⟩
def pcOut (r:AV) (H:List Blk) (l:List (ByteArray × Nat)) (k:Nat):Prop := r = .t [.c (pkV 0 l),.c (pkV 1 l),.c (.val (.int .i64 ((k:Nat):Int)))] ∧ H = pkH l
theorem iOggPacketsQ {w0:World} {t:TypeId} {v:Nat → Value} (he:Errs w0 t v) {b:ByteArray} (hs:b.size ≤ 268435456)
   (ho:∀ g rest,pageI (bytesOf b) = some (g,rest) → ∃ k,Opens (bytesOf b) g rest k) {g0:PgI} {L0:List Int} (hp:pageI (bytesOf b) = some (g0,L0)) (hok:okX g0.segs.flatten)
   (hgd:goodR none (mkLi g0.hdr 0) (mkHl g0.hdr false) L0) {A:List (List Int × List Int)} {Z:Option (List Int)} (hA:pkAll none L0 = (A,Z,[])) (hAl0:A.length ≤ 1099511627776) :
   CallsA Tryz.prog w0 12 [.c (.val (.string b))] [] fun r H => pcOut r H (A.map pkM) (if parN Z = 0 then 0 else 1) := by
 have hLb:Byt (bytesOf b) := byt_bytes b
 have hL:(bytesOf b).length ≤ 268435456 := by rw [bytesOf_len]; exact hs
 have hop := iOpenQ2 he (by omega) ho hp hok
 have hL0b:Byt L0 := ((pageI_fac hp).2.2 hLb).1
 have hL0l:L0.length + 27 ≤ (bytesOf b).length := (pageI_fac hp).1
 refine callsA_of_evD c12_ ?_
 conv => whnf
 refine CallsA.liftE (H0 := []) [] rfl trivial rfl hop ?_
 rintro _ _ ⟨s0,p0,m,B5,B8,B9,hs0,hr0,rfl,rfl⟩
 generalize bytesOf b = L at hLb hL hs0 hr0 hL0l
 obtain ⟨li0,hli0⟩:∃ li0,li0 = mkLi g0.hdr 0 := ⟨_,rfl⟩
 obtain ⟨hl0,hhl0⟩:∃ hl0,hl0 = mkHl g0.hdr false := ⟨_,rfl⟩
 rw [← hli0,← hhl0] at hgd ⊢
 have hI0:NpI L A Z 0 s0 ⟨[],[none],1,0,p0⟩ none li0 hl0 := by
   subst hr0
   refine ⟨hs0,hL0b,⟨rfl,Nat.le_refl _,Nat.le_refl _,rfl⟩,hgd,by rw [hA]; rfl,by rw [hA],rfl,?_,?_⟩
   · show 27 * 0 + _ ≤ _
     omega
   · show 27 * 0 + _ ≤ _
     omega
 refine ⟨.t [.c (.ptr 3 0),.c (.ptr 11 0),.c (.val .nilIface)],pcC 0 [] ++ [rdB 4 6 7 8 m,srcB 5 L s0,datB L,tabB tabL,psB 9 10 (.tl 1 0 p0) none false li0 hl0,_,quQ 13 14 [none],.dead,_,_,segB [],fhB []],rfl,⟨rfl,rfl,rfl,rdB_ren (by rfl) (by rfl) (by rfl) (by rfl) m,srcB_ren (by rfl) _,rfl,rfl,rfl,rfl,rfl,rfl,rfl,rfl,rfl,rfl,trivial⟩,?_⟩
 conv => whnf
 refine Or.inl ?_
 conv => whnf
 refine ⟨fun g => zF g,fun _ => ?_⟩
 conv => whnf
 have hAl:A.length ≤ 1099511627776 := hAl0
 refine ⟨PcI L A Z,pcSt m L A Z,fun x => A.length - x.1.1.1,⟨⟨((0,[]),s0,⟨[],[none],1,0,p0⟩,none,li0,hl0),hI0,rfl⟩,[0,1,2,3,4,5,6,7,8,9,10,13,14],⟨rfl,⟨rfl,rfl,rfl,rfl,rfl,rfl,rdE (by rfl) (by rfl) (by rfl) (by rfl) m,rfl,srcE (by rfl) _,rfl,rfl,rfl,rfl,rfl,rfl,rfl,lk 15 rfl rfl,rfl,rfl,lk 15 rfl rfl,rfl,rfl,rfl,rfl,trivial⟩,rfl⟩,rfl,rfl,rfl,rfl,trivial⟩,fun j => ?_⟩
 obtain ⟨⟨⟨d,l⟩,s,q,part,li,hl⟩,hI,hll⟩ := j
 have hI:NpI L A Z d s q part li hl := hI
 have hll:l = (A.take d).map pkM := hll
 have hnp := nextPacketQ he m hLb hL hI
 cases l with
 | nil =>
   conv => whnf
   refine CallsA.liftE (H0 := np0 m L s q part li hl) [3,4,5,6,7,8,9,10,11,12] rfl ⟨rdE (by rfl) (by rfl) (by rfl) (by rfl) m,rfl,srcE (by rfl) _,rfl,rfl,rfl,rfl,rfl,psE (by rfl) (by rfl) _ _ _ _ _,rfl,lk 13 rfl rfl,rfl,rfl,embP rfl ⟨rfl,rfl,rfl,rfl,trivial⟩⟩ rfl hnp ?_
   rintro r H (⟨s2,q2,part2,li2,hl2,x,h,hI2,hqd,hAd,rfl,rfl⟩ | ⟨hAd,k,hkk,hkz,rfl,rfl⟩)
   · have hdl:d < A.length := (List.getElem?_eq_some_iff.1 hAd).1
     have htk:(A.take (d + 1)).map pkM = (A.take d).map pkM ++ [pkM (x,h)] := by rw [List.take_add_one,hAd,List.map_append]; rfl
     refine ⟨.t [.c (.mem 15 d x.length),.c (.mrow 16 d 10 0 0),.c (.val .nilIface)],[.cells 31 [pkV 13 []],.cells 32 [pkV 14 []],.cells 3 [.val (.int .i64 ((0:Nat):Int))],rdB 4 6 7 8 m,srcB 5 L s2,datB L,tabB tabL,psB 13 14 q2.q (part2.map List.length) false li2 hl2,.dead,.dead,.dead,.dead,.dead,q2.Q 15 16,parB part2,q2.D,q2.H],rfl,⟨rfl,rfl,rfl,rdB_ren (by rfl) (by rfl) (by rfl) (by rfl) m,srcB_ren (by rfl) _,rfl,rfl,psB_ren (by rfl) (by rfl) _ _ _ _ _,rfl,rfl,rfl,rfl,rfl,rfl,parB_ren _ _,rfl,rfl,trivial⟩,?_⟩
     conv => whnf
     refine Or.inl ?_
     conv => whnf
     refine ⟨.iface t (v 0),?_⟩
     conv => whnf
     refine ⟨he.get 0 (by decide) (by decide) (by decide),?_⟩
     conv => whnf
     refine ⟨rfl,?_⟩
     conv => whnf
     refine ⟨he.nil0,?_⟩
     conv => whnf
     refine ⟨fun g => zF g,fun _ => ?_⟩
     conv => whnf
     refine Or.inl ?_
     conv => whnf
     refine ⟨fun g => zF g,fun _ => ?_⟩
     conv => whnf
     refine ⟨trivial,x,⟨rfl,x,?_,Nat.le_refl _,rfl,by show _ = flat (encI .u8) [] (x.take x.length); rw [List.take_length]⟩,?_⟩
     · show (q2.all.map fun x => x.1)[d]? = some x
       rw [List.getElem?_map,hqd]
       rfl
     conv => whnf
     refine ⟨by decide,ByteArray,encStr,[],[strOf x],fun _ => rfl,⟨rfl,rfl,rfl⟩,by simp only [List.length_cons,List.length_nil]; omega,by simp only [List.length_cons,List.length_nil]; omega,?_⟩
     conv => whnf
     refine ⟨[h],h,?_,rfl,?_⟩
     · show ((q2.all.map fun x => x.2).map fun h => [h])[d]? = some [h]
       rw [List.getElem?_map,List.getElem?_map,hqd]
       rfl
     conv => whnf
     refine ⟨⟨⟨rfl,rfl⟩,trivial⟩,?_⟩
     conv => whnf
     refine ⟨by decide,Int,encI .u64,[],[((le ((h.drop 6).take 8):Nat):Int)],fun _ => rfl,⟨rfl,rfl,rfl⟩,by simp only [List.length_cons,List.length_nil]; omega,by simp only [List.length_cons,List.length_nil]; omega,?_⟩
     conv => whnf
     refine ⟨trivial,?_⟩
     conv => whnf
     refine ⟨trivial,?_⟩
     conv => whnf
     refine ⟨⟨((d + 1,[pkM (x,h)]),s2,q2,part2,li2,hl2),hI2,?_⟩,⟨[0,1,2,3,4,5,6,7,8,13,14,15,16,18,20],⟨rfl,⟨rfl,rfl,rfl,rfl,rfl,rfl,rdE (by rfl) (by rfl) (by rfl) (by rfl) m,rfl,srcE (by rfl) _,rfl,rfl,rfl,rfl,rfl,psE (by rfl) (by rfl) _ _ _ _ _,rfl,lk 21 rfl rfl,rfl,rfl,embP rfl ⟨rfl,rfl,rfl,rfl,rfl,rfl,rfl,rfl,trivial⟩⟩,by cases part2 <;> rfl⟩,rfl,rfl,rfl,rfl,trivial⟩,?_⟩
     · show [pkM (x,h)] = (A.take (d + 1)).map pkM
       rw [htk,← hll]
       rfl
     · show A.length - (d + 1) < A.length - d
       omega
   · have hlA:A.map pkM = [] := by rw [hll,List.take_of_length_le (by omega)]
     rw [hlA]
     refine ⟨.t [.c (.val (.slice none 0 0)),.c (.val (.pointer none)),.c (.val (.iface t (v k)))],[.cells 31 [pkV 13 []],.cells 32 [pkV 14 []],.cells 3 [.val (.int .i64 ((0:Nat):Int))],.dead,.dead,.dead,.dead,.dead,.dead,.dead,.dead,.dead,.dead],rfl,⟨rfl,rfl,rfl,rfl,rfl,rfl,rfl,rfl,rfl,rfl,rfl,rfl,rfl,trivial⟩,?_⟩
     conv => whnf
     refine Or.inl ?_
     conv => whnf
     refine ⟨.iface t (v 0),?_⟩
     conv => whnf
     refine ⟨he.get 0 (by decide) (by decide) (by decide),?_⟩
     conv => whnf
     refine ⟨rfl,?_⟩
     conv => whnf
     refine ⟨_,he.eq0 k hkk.1 hkk.2.1 hkk.2.2,?_⟩
     conv => whnf
     refine ⟨fun g => ?_,fun g => ?_⟩
     · have g:k = 0 := of_decide_eq_true g
       conv => whnf
       refine ⟨⟨⟨rfl,rfl⟩,trivial⟩,?_⟩
       conv => whnf
       refine ⟨trivial,?_⟩
       conv => whnf
       refine ⟨trivial,?_⟩
       conv => whnf
       exact Or.inr ⟨[],.t [.c (pkV 0 []),.c (pkV 1 []),.c (.val (.int .i64 ((0:Nat):Int)))],pkH [],⟨rfl,trivial,rfl⟩,rfl,by rw [if_pos (hkz.1 g)]; exact ⟨rfl,rfl⟩⟩
     · have g:k ≠ 0 := of_decide_eq_false g
       conv => whnf
       refine Or.inl ?_
       conv => whnf
       refine ⟨fun _ => ?_,fun g => zT g⟩
       conv => whnf
       refine ⟨⟨⟨rfl,rfl⟩,trivial⟩,?_⟩
       conv => whnf
       refine ⟨trivial,?_⟩
       conv => whnf
       refine ⟨trivial,?_⟩
       conv => whnf
       exact Or.inr ⟨[],.t [.c (pkV 0 []),.c (pkV 1 []),.c (.val (.int .i64 ((1:Nat):Int)))],pkH [],⟨rfl,trivial,rfl⟩,rfl,by rw [if_neg fun c => g (hkz.2 c)]; exact ⟨rfl,rfl⟩⟩
 | cons y yr =>
   have hml:((y :: yr).map Prod.fst).length = yr.length + 1 := by rw [List.length_map]; rfl
   have hml2:(((y :: yr).map Prod.snd).map fun (n:Nat) => (n:Int)).length = yr.length + 1 := by rw [List.length_map,List.length_map]; rfl
   have hyr:yr.length ≤ 1099511627776 := by
     have h1 := congrArg List.length hll
     rw [List.length_map,List.length_take,List.length_cons] at h1
     omega
   conv => whnf
   refine CallsA.liftE (H0 := np0 m L s q part li hl) [3,4,5,6,7,8,9,10,11,12] rfl ⟨rdE (by rfl) (by rfl) (by rfl) (by rfl) m,rfl,srcE (by rfl) _,rfl,rfl,rfl,rfl,rfl,psE (by rfl) (by rfl) _ _ _ _ _,rfl,lk 15 rfl rfl,rfl,rfl,embP rfl ⟨rfl,rfl,rfl,rfl,trivial⟩⟩ rfl hnp ?_
   rintro r H (⟨s2,q2,part2,li2,hl2,x,h,hI2,hqd,hAd,rfl,rfl⟩ | ⟨hAd,k,hkk,hkz,rfl,rfl⟩)
   · have hdl:d < A.length := (List.getElem?_eq_some_iff.1 hAd).1
     have htk:(A.take (d + 1)).map pkM = (A.take d).map pkM ++ [pkM (x,h)] := by rw [List.take_add_one,hAd,List.map_append]; rfl
     refine ⟨.t [.c (.mem 17 d x.length),.c (.mrow 18 d 10 0 0),.c (.val .nilIface)],[.cells 31 [pkV 13 (y :: yr)],.cells 32 [pkV 14 (y :: yr)],.cells 3 [.val (.int .i64 ((0:Nat):Int))],rdB 4 6 7 8 m,srcB 5 L s2,datB L,tabB tabL,psB 15 16 q2.q (part2.map List.length) false li2 hl2,.dead,.dead,.dead,.dead,.dead,strB ((y :: yr).map Prod.fst),grB ((y :: yr).map Prod.snd),q2.Q 17 18,parB part2,q2.D,q2.H],rfl,⟨rfl,rfl,rfl,rdB_ren (by rfl) (by rfl) (by rfl) (by rfl) m,srcB_ren (by rfl) _,rfl,rfl,psB_ren (by rfl) (by rfl) _ _ _ _ _,rfl,rfl,rfl,rfl,rfl,rfl,rfl,rfl,parB_ren _ _,rfl,rfl,trivial⟩,?_⟩
     conv => whnf
     refine Or.inl ?_
     conv => whnf
     refine ⟨.iface t (v 0),?_⟩
     conv => whnf
     refine ⟨he.get 0 (by decide) (by decide) (by decide),?_⟩
     conv => whnf
     refine ⟨rfl,?_⟩
     conv => whnf
     refine ⟨he.nil0,?_⟩
     conv => whnf
     refine ⟨fun g => zF g,fun _ => ?_⟩
     conv => whnf
     refine Or.inl ?_
     conv => whnf
     refine ⟨fun g => zF g,fun _ => ?_⟩
     conv => whnf
     refine ⟨trivial,x,⟨rfl,x,?_,Nat.le_refl _,rfl,by show _ = flat (encI .u8) [] (x.take x.length); rw [List.take_length]⟩,?_⟩
     · show (q2.all.map fun x => x.1)[d]? = some x
       rw [List.getElem?_map,hqd]
       rfl
     conv => whnf
     refine ⟨hml.symm,[strOf x],⟨rfl,rfl,rfl⟩,apC _ hml hyr (by decide),apD _ hml hyr,?_⟩
     conv => whnf
     refine ⟨[h],h,?_,rfl,?_⟩
     · show ((q2.all.map fun x => x.2).map fun h => [h])[d]? = some [h]
       rw [List.getElem?_map,List.getElem?_map,hqd]
       rfl
     conv => whnf
     refine ⟨⟨⟨rfl,rfl⟩,trivial⟩,?_⟩
     conv => whnf
     refine ⟨hml2.symm,[((le ((h.drop 6).take 8):Nat):Int)],⟨rfl,rfl,rfl⟩,apC _ hml2 hyr (by decide),apD _ hml2 hyr,?_⟩
     conv => whnf
     refine ⟨trivial,?_⟩
     conv => whnf
     refine ⟨trivial,?_⟩
     conv => whnf
     refine ⟨⟨((d + 1,(y :: (yr ++ [pkM (x,h)]))),s2,q2,part2,li2,hl2),hI2,?_⟩,⟨[0,1,2,3,4,5,6,7,8,15,16,17,18,20,22],⟨rfl,⟨?_,rfl,?_,rfl,rfl,rfl,rdE (by rfl) (by rfl) (by rfl) (by rfl) m,rfl,srcE (by rfl) _,rfl,rfl,rfl,rfl,rfl,psE (by rfl) (by rfl) _ _ _ _ _,rfl,lk 23 rfl rfl,rfl,rfl,embP rfl ⟨rfl,rfl,rfl,rfl,?_,rfl,?_,rfl,trivial⟩⟩,by cases part2 <;> rfl⟩,rfl,rfl,rfl,rfl,trivial⟩,?_⟩
     · show (y :: (yr ++ [pkM (x,h)])) = (A.take (d + 1)).map pkM
       rw [htk,← hll]
       rfl
     · show some (Blk.cells 31 [.vec 20 ((y :: yr).map Prod.fst ++ [strOf x]).length]) = some (Blk.cells 31 [.vec 20 (y :: (yr ++ [pkM (x,h)])).length])
       simp only [List.length_append,List.length_map,List.length_cons,List.length_nil]
     · show some (Blk.cells 32 [.vec 22 (((y :: yr).map Prod.snd).map (fun (n:Nat) => (n:Int)) ++ [((le ((h.drop 6).take 8):Nat):Int)]).length]) = some (Blk.cells 32 [.vec 22 (y :: (yr ++ [pkM (x,h)])).length])
       simp only [List.length_append,List.length_map,List.length_cons,List.length_nil]
     · show some (Blk.vec true 9 encStr [] 1 ((y :: yr).map Prod.fst ++ [strOf x])) = some (strB ((y :: (yr ++ [pkM (x,h)])).map Prod.fst))
       rw [← List.cons_append,List.map_append]
       rfl
     · show some (Blk.vec true 39 (encI .u64) [] 1 (((y :: yr).map Prod.snd).map (fun (n:Nat) => (n:Int)) ++ [((le ((h.drop 6).take 8):Nat):Int)])) = some (grB ((y :: (yr ++ [pkM (x,h)])).map Prod.snd))
       unfold grB
       rw [← List.cons_append,List.map_append,List.map_append]
       rfl
     · show A.length - (d + 1) < A.length - d
       omega
   · have hlA:A.map pkM = (y :: yr) := by rw [hll,List.take_of_length_le (by omega)]
     rw [hlA]
     refine ⟨.t [.c (.val (.slice none 0 0)),.c (.val (.pointer none)),.c (.val (.iface t (v k)))],[.cells 31 [pkV 13 (y :: yr)],.cells 32 [pkV 14 (y :: yr)],.cells 3 [.val (.int .i64 ((0:Nat):Int))],.dead,.dead,.dead,.dead,.dead,.dead,.dead,.dead,.dead,.dead,strB ((y :: yr).map Prod.fst),grB ((y :: yr).map Prod.snd)],rfl,⟨rfl,rfl,rfl,rfl,rfl,rfl,rfl,rfl,rfl,rfl,rfl,rfl,rfl,rfl,rfl,trivial⟩,?_⟩
     conv => whnf
     refine Or.inl ?_
     conv => whnf
     refine ⟨.iface t (v 0),?_⟩
     conv => whnf
     refine ⟨he.get 0 (by decide) (by decide) (by decide),?_⟩
     conv => whnf
     refine ⟨rfl,?_⟩
     conv => whnf
     refine ⟨_,he.eq0 k hkk.1 hkk.2.1 hkk.2.2,?_⟩
     conv => whnf
     refine ⟨fun g => ?_,fun g => ?_⟩
     · have g:k = 0 := of_decide_eq_true g
       conv => whnf
       refine ⟨⟨⟨rfl,rfl⟩,trivial⟩,?_⟩
       conv => whnf
       refine ⟨trivial,?_⟩
       conv => whnf
       refine ⟨trivial,?_⟩
       conv => whnf
       exact Or.inr ⟨[13,14],.t [.c (pkV 0 (y :: yr)),.c (pkV 1 (y :: yr)),.c (.val (.int .i64 ((0:Nat):Int)))],pkH (y :: yr),⟨rfl,⟨rfl,rfl,rfl,rfl,trivial⟩,rfl⟩,rfl,by rw [if_pos (hkz.1 g)]; exact ⟨rfl,rfl⟩⟩
     · have g:k ≠ 0 := of_decide_eq_false g
       conv => whnf
       refine Or.inl ?_
       conv => whnf
       refine ⟨fun _ => ?_,fun g => zT g⟩
       conv => whnf
       refine ⟨⟨⟨rfl,rfl⟩,trivial⟩,?_⟩
       conv => whnf
       refine ⟨trivial,?_⟩
       conv => whnf
       refine ⟨trivial,?_⟩
       conv => whnf
       exact Or.inr ⟨[13,14],.t [.c (pkV 0 (y :: yr)),.c (pkV 1 (y :: yr)),.c (.val (.int .i64 ((1:Nat):Int)))],pkH (y :: yr),⟨rfl,⟨rfl,rfl,rfl,rfl,trivial⟩,rfl⟩,rfl,by rw [if_neg fun c => g (hkz.2 c)]; exact ⟨rfl,rfl⟩⟩
end Go.Proofs.YtokkphocaloelaaGreatDoor

end
section
namespace Go.Proofs.YtokkphocaloelaaGreatDoor
open Go Go.Vc
set_option maxRecDepth 100000
set_option maxHeartbeats 8000000

theorem encAll_byt:∀ (ps:List Pg),(∀ p ∈ ps,p.good) → Byt (encAll ps)
 | [],_ => fun _x hx => (List.not_mem_nil hx).elim
 | p :: r,h => (pgEnc_byt (h p (List.mem_cons_self ..))).append (encAll_byt r fun q hq => h q (List.mem_cons_of_mem _ hq))
theorem encAll_add (a b:List Pg):encAll (a ++ b) = encAll a ++ encAll b := by
 unfold encAll
 rw [List.map_append,List.flatten_append]
theorem pageI_enc {p:Pg} (hg:p.good) {R:List Int} (hR:Byt R):∃ g,pageI (pgEnc p ++ R) = some (g,R) ∧ g.segs = p.segs ∧ pgEl g = lcdOf p ∧ Reads (strOf (pgEnc p ++ R)) p (pgEnc p).length g := by
 have hb:Byt (pgEnc p ++ R) := (pgEnc_byt hg).append hR
 have hbs := bytes_str hb
 obtain ⟨g,h1,h2⟩ := pageP_I (pageP_enc hg (b := strOf (pgEnc p ++ R)) (rest := R) hbs)
 rw [hbs,List.drop_left' rfl] at h1
 have hs:g.segs = p.segs := by
   have hpar:p.pts = join g.segs [] := h2.par
   unfold Pg.segs
   rw [hpar]
   by_cases he:g.segs = []
   · rw [he]
     rfl
   · rw [lace_join g.segs [] 0 p.more he h2.len rfl h2.las]
     rfl
 refine ⟨g,h1,hs,?_,h2⟩
 unfold pgEl lcdOf
 rw [hs,h2.gra]
theorem oggR_enc:∀ (ps:List Pg),(∀ p ∈ ps,p.good) → ∀ {b:ByteArray} {T:List Int},bytesOf b = encAll ps ++ T → pageI T = none → oggR b = (ps,T.isEmpty)
 | [],_,b,T,hb,hn => by
   have hb:bytesOf b = T := hb
   have hl := bytesOf_len b
   by_cases h0:b.size = 0
   · have hT:T = [] := by
       rw [← hb]
       exact List.eq_nil_of_length_eq_zero (by omega)
     rw [oggR_nil h0,hT]
     rfl
   · rw [oggR_step h0]
     cases hp:pageP b with
     | none =>
       cases T with
       | nil => rw [hb] at hl; exact absurd hl.symm h0
       | cons _ _ => rfl
     | some x =>
       obtain ⟨p,k⟩ := x
       obtain ⟨g,h1,_⟩ := pageP_I hp
       rw [hb,hn] at h1
       cases h1
 | p :: r,hg,b,T,hb,hn => by
   have hgr:∀ q ∈ r,q.good := fun q hq => hg q (List.mem_cons_of_mem _ hq)
   have hgp := hg p (List.mem_cons_self ..)
   have e:encAll (p :: r) ++ T = pgEnc p ++ (encAll r ++ T) := List.append_assoc ..
   rw [e] at hb
   have hl := bytesOf_len b
   have hpl := pgEnc_len hgp
   have hbl:(bytesOf b).length = (pgEnc p).length + (encAll r ++ T).length := by rw [hb,List.length_append]
   rw [oggR_step (by omega),pageP_enc hgp hb]
   have hr:bytesOf (b.extract (pgEnc p).length b.size) = encAll r ++ T := by
     rw [bytes_ext,List.take_of_length_le (by omega),hb,List.drop_left' rfl]
   simp only [oggR_enc r hgr hr hn]
theorem pageI_nil:pageI [] = none := by
 unfold pageI
 rw [if_pos (show ([]:List Int).length < 27 by decide)]
theorem full_len:∀ (n:Nat) (x:List Int),(full n x).length = n
 | 0,_ => rfl
 | n + 1,x => by show (full n _).length + 1 = n + 1; rw [full_len n]
theorem one_lace {x:List Int} (h:x.length / 255 < 256):OneP (lace false [x]) (x.length / 255) := by
 have e:lace false [x] = lc x ++ [lr x] := by
   show lc x ++ (if ([]:List (List Int)) = [] ∧ false = true then [] else [lr x]) ++ [] = _
   rw [if_neg (by simp),List.append_nil]
 have hl:(lc x).length = x.length / 255 := full_len _ _
 rw [e]
 refine ⟨by rw [List.length_append,hl]; rfl,h,fun i y hy => ?_⟩
 rcases Nat.lt_or_ge i (x.length / 255) with hi | hi
 · rw [List.getElem?_append_left (by omega),lc_get hi] at hy
   cases hy
   rw [List.length_take,List.length_drop]
   omega
 · rw [List.getElem?_append_right (by omega)] at hy
   have h0:i - (lc x).length = 0 := by
     rcases Nat.eq_zero_or_pos (i - (lc x).length) with h0 | h0
     · exact h0
     · rw [List.getElem?_eq_none (by simp; omega)] at hy
       cases hy
   rw [h0] at hy
   cases hy
   have := lr_len x
   omega
theorem Hd.text_list {h:Hd} (h1:h.text.2 = 1) (_hr:h.rate < 4294967296):∃ Y:List Int,bytesOf h.text.1 = h.fix ++ Y ∧ ((h.map = 0 ∧ Y = []) ∨ ((h.map = 1 ∨ h.map = 255) ∧ Y.length = 2 + h.ch.toNat ∧ Y = [h.str,h.cou] ++ bytesOf h.mapping)) ∧ Byt h.fix ∧ 1 ≤ h.ch ∧ h.ch ≤ 255 ∧ 0 ≤ h.map ∧ h.map ≤ 255 := by
 unfold Hd.text at h1 ⊢
 by_cases c1:h.bad
 · rw [if_pos c1] at h1
   exact absurd h1 (by decide)
 rw [if_neg c1] at h1 ⊢
 unfold Hd.bad at c1
 have hfb:Byt h.fix := by
   unfold Hd.fix
   refine Byt.append (Byt.append (Byt.append (Byt.append (Byt.append ?_ ?_) (byt_leL _ _)) (byt_leL _ _)) (byt_leL _ _)) ?_
   · unfold opusHead
     intro x hx
     simp at hx
     omega
   · intro x hx
     simp at hx
     omega
   · intro x hx
     simp at hx
     omega
 by_cases c2:h.map = 0
 · rw [if_pos c2]
   exact ⟨[],by rw [List.append_nil]; exact bytes_str hfb,.inl ⟨c2,rfl⟩,hfb,by omega,by omega,by omega,by omega⟩
 rw [if_neg c2] at h1 ⊢
 by_cases c3:h.bad2
 · rw [if_pos c3] at h1
   exact absurd h1 (by decide)
 rw [if_neg c3]
 unfold Hd.bad2 at c3
 have hsc:Byt [h.str,h.cou] := by
   intro x hx
   simp at hx
   omega
 refine ⟨[h.str,h.cou] ++ bytesOf h.mapping,?_,.inr ⟨by omega,?_,rfl⟩,hfb,by omega,by omega,by omega,by omega⟩
 · show bytesOf (strOf (h.fix ++ [h.str,h.cou]) ++ h.mapping) = _
   rw [bytes_add,bytes_str (hfb.append hsc),List.append_assoc]
 · rw [List.length_append,bytesOf_len]
   simp only [List.length_cons,List.length_nil]
   omega
theorem Hd.fix_len (h:Hd):h.fix.length = 19 := by
 unfold Hd.fix opusHead
 simp only [List.length_append,leL_len,List.length_cons,List.length_nil]
theorem bt_app {A B:List Int} {i:Nat} (h:i < A.length):bt (A ++ B) i = bt A i := by
 unfold bt
 rw [List.getD_eq_getElem?_getD,List.getD_eq_getElem?_getD,List.getElem?_append_left h]
theorem bt_r {A B:List Int} {i:Nat}:bt (A ++ B) (A.length + i) = bt B i := by
 unfold bt
 rw [List.getD_eq_getElem?_getD,List.getD_eq_getElem?_getD,List.getElem?_append_right (by omega),Nat.add_sub_cancel_left]
theorem Hd.fix18 (h:Hd):bt h.fix 18 = h.map.toNat := by
 have e:(opusHead ++ [h.ver,h.ch] ++ leL h.skip.toNat 2 ++ leL h.rate 4 ++ leL (h.gain % 65536).toNat 2).length = 18 := by
   unfold opusHead
   simp only [List.length_append,leL_len,List.length_cons,List.length_nil]
 have := bt_r (A := opusHead ++ [h.ver,h.ch] ++ leL h.skip.toNat 2 ++ leL h.rate 4 ++ leL (h.gain % 65536).toNat 2) (B := [h.map]) (i := 0)
 rw [e] at this
 exact this
theorem Hd.fix9 (h:Hd):bt h.fix 9 = h.ch.toNat := by
 unfold Hd.fix opusHead
 rfl
theorem Hd.fix8 (h:Hd):h.fix.take 8 = opusHead := by
 unfold Hd.fix opusHead
 rfl
theorem Hd.okX {h:Hd} (h1:h.text.2 = 1) (hr:h.rate < 4294967296):okX (bytesOf h.text.1) ∧ (bt (bytesOf h.text.1) 18 = 0 ∨ bt (bytesOf h.text.1) 18 = 1 ∨ bt (bytesOf h.text.1) 18 = 255) := by
 obtain ⟨Y,e,hY,hfb,c1,c2,c3,c4⟩ := Hd.text_list h1 hr
 have hl := h.fix_len
 have e18:bt (bytesOf h.text.1) 18 = h.map.toNat := by rw [e,bt_app (by omega),h.fix18]
 have e9:bt (bytesOf h.text.1) 9 = h.ch.toNat := by rw [e,bt_app (by omega),h.fix9]
 refine ⟨⟨by rw [e,List.length_append]; omega,by rw [e,List.take_append_of_le_length (by omega),h.fix8],?_⟩,?_⟩
 · unfold okM
   rw [e18,e9,e,List.length_append]
   rcases hY with ⟨a,rfl⟩ | ⟨a,b,_⟩
   · left
     simp only [List.length_nil]
     omega
   · right
     omega
 · rw [e18]
   rcases hY with ⟨a,rfl⟩ | ⟨a,b,_⟩ <;> omega
theorem hdPg_good {s:ByteArray} (h:s.size ≤ 60000):(hdPg s).good := (ok_one (p := hdPg s) (s := s) rfl rfl h ⟨show (0:Int) ≤ 2 by decide,show (2:Int) ≤ 7 by decide⟩).good (show 1 < 4294967296 by decide) (show 0 < 4294967296 by decide) (show 0 < 18446744073709551616 by decide)
theorem tgPg_good {s:ByteArray} (h:s.size ≤ 60000):(tgPg s).good := (ok_one (p := tgPg s) (s := s) rfl rfl h ⟨show (0:Int) ≤ 0 by decide,show (0:Int) ≤ 7 by decide⟩).good (show 1 < 4294967296 by decide) (show 1 < 4294967296 by decide) (show 0 < 18446744073709551616 by decide)
theorem opens_hd {X:ByteArray} (hX:X.size ≤ 60000) (hm:19 ≤ (bytesOf X).length → (bytesOf X).take 8 = opusHead → bt (bytesOf X) 18 = 0 ∨ bt (bytesOf X) 18 = 1 ∨ bt (bytesOf X) 18 = 255) {R:List Int} (hR:Byt R) :
   ∃ g,pageI (pgEnc (hdPg X) ++ R) = some (g,R) ∧ g.segs.flatten = bytesOf X ∧ ∃ k,Opens (pgEnc (hdPg X) ++ R) g R k := by
 have hg := hdPg_good hX
 obtain ⟨g,h1,h2,_,h4⟩ := pageI_enc hg hR
 have hsg:(hdPg X).segs = lace false [bytesOf X] := rfl
 have hfl:g.segs.flatten = bytesOf X := by
   rw [h2,segs_flat hg]
   exact List.append_nil _
 have hb:Byt (pgEnc (hdPg X) ++ R) := (pgEnc_byt hg).append hR
 have hl := pgEnc_len hg
 have hXl := bytesOf_len X
 refine ⟨g,h1,hfl,(bytesOf X).length / 255,h1,h4.siz,?_,?_,?_,?_,?_,?_,?_,?_⟩
 · rw [h2,hsg]
   exact one_lace (by omega)
 · rw [h4.hdr,bytes_str hb]
   exact hb.take _
 · rw [h4.hdr,bytes_str hb,List.length_take,List.length_append]
   omega
 · have := congrArg (List.take 4) h4.sig
   rw [List.take_take] at this
   exact this
 · have := h4.fla
   have e:(hdPg X).flags = 2 := rfl
   omega
 · rw [hfl]
   exact byt_bytes X
 · rw [hfl]
   omega
 · rw [hfl]
   exact hm
end Go.Proofs.YtokkphocaloelaaGreatDoor

end
section
namespace Go.Proofs.YtokkphocaloelaaGreatDoor
open Go Go.Vc
set_option maxRecDepth 100000

theorem join_nil:∀ {segs:List (List Int)} {acc:List Int},join segs acc = [] → segs = []
 | [],_,_ => rfl
 | x :: r,acc,h => by
   simp only [join] at h
   split at h
   · cases h
   · rename_i h2
     exact absurd (join_nil h) fun c => h2 (.inr c)
theorem prt_cut (gr:Nat) (m:Bool):∀ (segs:List (List Int)) (acc:List Int) (part:Option (List Int)) (s:PkS) (parts:List ByteArray),segs ≠ [] → parts.map bytesOf = join segs acc → part.getD [] = bytesOf s.op ++ acc → (∀ x ∈ segs,x.length ≤ 255) →
   (∀ x,segs.getLast? = some x → (m = true ↔ x.length = 255)) →
   (prt gr m parts s).l = s.l ++ ((cutS part segs).1.map fun x => (strOf x,gr)) ∧ ((prt gr m parts s).go = true ↔ parN (cutS part segs).2 ≠ 0) ∧ bytesOf (prt gr m parts s).op = (cutS part segs).2.getD []
 | [],_,_,_,_,h,_,_,_,_ => absurd rfl h
 | x :: r,acc,part,s,parts,_,hj,hp,h8,hm => by
   have hx := h8 x (List.mem_cons_self ..)
   have hr8:∀ y ∈ r,y.length ≤ 255 := fun y hy => h8 y (List.mem_cons_of_mem _ hy)
   simp only [join] at hj
   by_cases h255:x.length = 255
   · simp only [cutS,if_pos h255]
     by_cases hr:r = []
     · subst hr
       rw [if_pos (.inr rfl)] at hj
       have hmt:m = true := (hm x rfl).2 h255
       match parts,hj with
       | [p0],hj =>
         simp only [List.map_cons,List.map_nil,join,List.cons.injEq,and_true] at hj
         simp only [prt,cutS,hmt,and_self,if_true,List.map_nil,List.append_nil,true_and,Option.getD_some,true_iff]
         refine ⟨?_,?_⟩
         · show (part.getD [] ++ x).length ≠ 0
           rw [List.length_append]
           omega
         · rw [bytes_add,hj,hp,List.append_assoc]
       | [],hj => simp [join] at hj
       | _ :: _ :: _,hj => simp [join] at hj
     · rw [if_neg (by rintro (c | c); · omega
                      · exact hr c)] at hj
       refine prt_cut gr m r (acc ++ x) (some (part.getD [] ++ x)) s parts hr hj (by rw [Option.getD_some,hp,List.append_assoc]) hr8 fun y hy => hm y ?_
       rw [List.getLast?_cons,hy]
       rfl
   · simp only [cutS,if_neg h255]
     rw [if_pos (.inl (by omega))] at hj
     match parts,hj with
     | [],hj => simp at hj
     | p0 :: pr,hj =>
       simp only [List.map_cons,List.cons.injEq] at hj
       obtain ⟨hj1,hj2⟩ := hj
       have hsp:s.op ++ p0 = strOf (part.getD [] ++ x) := by
         rw [hp,List.append_assoc,← hj1,← bytes_add,str_bytes]
       by_cases hr:r = []
       · subst hr
         have hpr:pr = [] := by
           have := congrArg List.length hj2
           simp only [List.length_map,join,List.length_nil] at this
           exact List.eq_nil_of_length_eq_zero this
         subst hpr
         have hmf:m ≠ true := fun c => h255 ((hm x rfl).1 c)
         simp only [prt,cutS,hmf,PkS.put,List.map_cons,List.map_nil,hsp,Option.getD_none]
         exact ⟨rfl,⟨fun c => Bool.noConfusion c,fun c => absurd rfl c⟩,rfl⟩
       · have hpr:pr ≠ [] := fun c => hr (join_nil (by rw [← hj2,c]; rfl))
         have hih := prt_cut gr m r [] none (s.put gr p0) pr hr hj2 rfl hr8 fun y hy => hm y (by rw [List.getLast?_cons,hy]; rfl)
         have e:prt gr m (p0 :: pr) s = prt gr m pr (s.put gr p0) := by
           simp only [prt,hpr,false_and,if_false]
         rw [e]
         refine ⟨?_,hih.2⟩
         rw [hih.1]
         show s.l ++ [(s.op ++ p0,gr)] ++ _ = _
         rw [List.append_assoc,hsp]
         rfl
theorem pageI_cnt {r r':List Int} {g:PgI} (h:pageI r = some (g,r')):g.segs.length = bt g.hdr 26 := by
 unfold pageI at h
 split at h
 · cases h
 · rename_i h1
   split at h
   · cases h
   · rename_i h2
     split at h
     · cases h
     · rename_i segs q hs
       split at h
       · cases h
         obtain ⟨a,_,_,_⟩ := segsI_facts _ _ hs
         show segs.length = bt (r.take 27) 26
         rw [a,List.length_take,List.length_drop]
         have:bt (r.take 27) 26 = bt r 26 := by
           unfold bt
           rw [List.getD_eq_getElem?_getD,List.getD_eq_getElem?_getD,List.getElem?_take]
           rfl
         rw [this]
         omega
       · cases h
theorem pks_cut {ser0:Nat}:∀ (ps:List Pg) (prev:Option Nat) (s:PkS) (part:Option (List Int)) (li:Nat) (hl:Bool) (st:PkS),(∀ p ∈ ps,p.good) → pks ser0 prev ps s = some st → bytesOf s.op = part.getD [] → (s.go = true ↔ parN part ≠ 0) → (s.go = true → prev = some li ∧ hl = true) →
   goodR part li hl (encAll ps) ∧ ∃ (A:List (List Int × List Int)) (Z:Option (List Int)),pkAll part (encAll ps) = (A,Z,[]) ∧ st.l = s.l ++ A.map pkM ∧ (st.go = true ↔ parN Z ≠ 0) ∧ ∀ x ∈ A.map pkM,x.2 < 18446744073709551616
 | [],prev,s,part,li,hl,st,_,h,h1,h2,_ => by
   simp only [pks,Option.some.injEq] at h
   subst h
   refine ⟨?_,[],part,?_,by simp,h2,by simp⟩
   · show goodR part li hl []
     rw [goodR]
     split
     · trivial
     · rename_i h3
       rw [pageI_nil] at h3
       cases h3
   · show pkAll part [] = _
     rw [pkAll_none pageI_nil]
 | p :: r,prev,s,part,li,hl,st,hg,h,h1,h2,h3 => by
   have hpg := hg p (List.mem_cons_self ..)
   have hrg:∀ q ∈ r,q.good := fun q hq => hg q (List.mem_cons_of_mem _ hq)
   simp only [pks] at h
   split at h
   · cases h
   · rename_i hbad
     split at h
     · cases h
     · rename_i hemp
       obtain ⟨g,e1,e2,e3,hR⟩ := pageI_enc hpg (encAll_byt r hrg)
       have e1:pageI (encAll (p :: r)) = some (g,encAll r) := e1
       have hfl:(bt g.hdr 5 % 2 ≠ 0) ↔ parN part ≠ 0 := by
         rw [← h2]
         have hn:¬ ((p.flags % 2 ≠ 0) ≠ (s.go = true)) := fun c => hbad (.inr (.inr c))
         have he := hR.fla
         have:(p.flags % 2 ≠ 0) = (s.go = true) := Classical.byContradiction hn
         rw [← this]
         omega
       have hsq:parN part ≠ 0 → hl = true ∧ le ((g.hdr.drop 18).take 4) = (li + 1) % 4294967296 := fun c => by
         obtain ⟨a1,a2⟩ := h3 (h2.2 c)
         refine ⟨a2,?_⟩
         rw [hR.seq]
         exact Classical.byContradiction fun c2 => hbad (.inr (.inl ⟨li,a1,c2⟩))
       rw [goodR_some e1,pkAll_some e1]
       obtain ⟨c1,c2,c3⟩:(prt p.gran p.more p.parts s).l = s.l ++ ((cutS part g.segs).1.map fun x => (strOf x,p.gran)) ∧ ((prt p.gran p.more p.parts s).go = true ↔ parN (cutS part g.segs).2 ≠ 0) ∧ bytesOf (prt p.gran p.more p.parts s).op = (cutS part g.segs).2.getD [] := by
         by_cases hs:g.segs = []
         · have hpar := hR.par
           rw [hs] at hpar
           have hp0:p.parts = [] := List.map_eq_nil_iff.1 hpar
           rw [hs,hp0]
           simp only [prt,cutS,List.map_nil,List.append_nil,true_and]
           exact ⟨h2,h1⟩
         · exact prt_cut p.gran p.more g.segs [] part s p.parts hs hR.par (by rw [List.append_nil,h1]) hR.len hR.las
       have h3':(prt p.gran p.more p.parts s).go = true → some p.seq = some (mkLi g.hdr li) ∧ mkHl g.hdr hl = true := by
         intro c
         have hn:bt g.hdr 26 ≠ 0 := by
           intro c0
           have hsz := pageI_cnt e1
           rw [c0] at hsz
           have hs:g.segs = [] := List.eq_nil_of_length_eq_zero hsz
           have hpar := hR.par
           rw [hs] at hpar
           have hp0:p.parts = [] := List.map_eq_nil_iff.1 hpar
           rw [hp0] at c
           exact hemp ⟨hp0,c⟩
         unfold mkLi mkHl
         rw [if_neg hn,if_neg hn,hR.seq]
         exact ⟨rfl,rfl⟩
       obtain ⟨i1,A,Z,i2,i3,i4,i5⟩ := pks_cut r (some p.seq) _ (cutS part g.segs).2 (mkLi g.hdr li) (mkHl g.hdr hl) st hrg h c3 c2 h3'
       have hmap:((cutS part g.segs).1.map fun x => (x,g.hdr)).map pkM = (cutS part g.segs).1.map fun x => (strOf x,p.gran) := by
         rw [List.map_map]
         apply List.map_congr_left
         intro x _
         show (strOf x,le ((g.hdr.drop 6).take 8)) = _
         rw [hR.gra]
       refine ⟨⟨⟨hR.siz,hfl,hsq⟩,i1⟩,_,_,by rw [i2],?_,i4,?_⟩
       · rw [i3,c1,List.append_assoc,List.map_append,hmap]
       · intro x hx
         rw [List.map_append,hmap] at hx
         rcases List.mem_append.1 hx with hx | hx
         · obtain ⟨y,_,rfl⟩ := List.mem_map.1 hx
           exact hpg.gran
         · exact i5 x hx
theorem pkAll_len:∀ (k:Nat) (R:List Int),R.length ≤ k → Byt R → ∀ part,27 * (pkAll part R).1.length ≤ 256 * R.length := by
 intro k
 induction k with
 | zero =>
   intro R hk hb part
   have:R = [] := List.eq_nil_of_length_eq_zero (by omega)
   subst this
   rw [pkAll_none pageI_nil]
   exact Nat.le_refl _
 | succ k ih =>
   intro R hk hb part
   cases h:pageI R with
   | none => rw [pkAll_none h]; exact Nat.zero_le _
   | some x =>
     obtain ⟨g,r'⟩ := x
     obtain ⟨f1,_,f3⟩ := pageI_fac h
     obtain ⟨f4,f5,f6⟩ := f3 hb
     have h1 := ih r' (by omega) f4 (cutS part g.segs).2
     have h2 := (cutS_len g.segs part fun x hx => (f6 x hx).2).1
     rw [pkAll_some h,List.length_append,List.length_map]
     omega
structure Backs (b:ByteArray) (st:PkS):Prop where
 siz:b.size ≤ 268435456
 opens:∃ (g:PgI) (L0:List Int) (A:List (List Int × List Int)) (Z:Option (List Int)),pageI (bytesOf b) = some (g,L0) ∧ okX g.segs.flatten ∧ (∀ g rest,pageI (bytesOf b) = some (g,rest) → ∃ k,Opens (bytesOf b) g rest k) ∧
   goodR none (mkLi g.hdr 0) (mkHl g.hdr false) L0 ∧ pkAll none L0 = (A,Z,[]) ∧ st.l = A.map pkM ∧ (st.go = true ↔ parN Z ≠ 0)
 gran:∀ x ∈ st.l,x.2 < 18446744073709551616
 len:st.l.length ≤ 1048576
end Go.Proofs.YtokkphocaloelaaGreatDoor

end
section
namespace Go.Proofs.YtokkphocaloelaaGreatDoor
open Go Go.Vc
set_option maxRecDepth 100000
set_option maxHeartbeats 8000000

def arrB (T:TypeId) (xs:List Int):Blk := .vec true T (encI .u8) [] 1 xs
theorem digs_at {n u m p:Nat} (hp:p < m) (hm:m ≤ n):(digs n u)[m - 1 - p]? = some ((48 + u / 10 ^ (n - m) / 10 ^ p % 10:Nat):Int) := by
 rw [digs_get (by omega),Nat.div_div_eq_div_mul,← Nat.pow_add,show n - 1 - (m - 1 - p) = n - m + p by omega]
theorem part_step {xs:List Int} {n u o m p:Nat} {y:Int} (h:o + n ≤ xs.length) (hm:m + p + 1 ≤ n) (hy:y = ((48 + u / 10 ^ (n - (m + p + 1)) / 10 ^ p % 10:Nat):Int)):(part xs (digs n u) o (m + 1)).set (o + m) y = part xs (digs n u) o m := by
 have hl := digs_len n u
 refine part_set (by omega) (by omega) ?_
 have := digs_at (n := n) (u := u) (m := m + p + 1) (p := p) (by omega) hm
 rw [show m + p + 1 - 1 - p = m by omega] at this
 rw [this,hy]
theorem pow_next {u n m j:Nat} (hj:j ≤ m) (hm:m ≤ n):u / 10 ^ (n - m) / 10 ^ j = u / 10 ^ (n - (m - j)) := by
 rw [Nat.div_div_eq_div_mul,← Nat.pow_add,show n - m + j = n - (m - j) by omega]
theorem last_small {u n m:Nat} (h:u < 10 ^ n) (hm:m ≤ n):u / 10 ^ (n - m) < 10 ^ m := by
 refine (Nat.div_lt_iff_lt_mul (Nat.pow_pos (by omega))).2 ?_
 rw [← Nat.pow_add,show m + (n - m) = n by omega]
 exact h
theorem base10W (w0:World) {T:TypeId} {xs:List Int} {o n c u:Nat} (hlen:o + n ≤ xs.length) (hn:n ≤ 20) (hu:u < 18446744073709551616) (hun:u < 10 ^ n) :
   CallsA Tryz.prog w0 100 [.c (.sli 0 1 o n c),.c (.val (.int .u64 u))] [arrB T xs] fun r H => r = .t [] ∧ H = [arrB T (part xs (digs n u) o 0)] := by
 have hdl := digs_len n u
 refine callsA_of_ev c100_ ?_
 conv => whnf
 refine Or.inl ?_
 conv => whnf
 refine ⟨{m:Nat // m ≤ n},fun ⟨m,_⟩ => ⟨[(0,.o (.c (.sli 0 1 o n c))),(1,.o (.c (.val (.int .u64 (u / 10 ^ (n - m):Nat))))),(4,.o (.c (.val (.int .i64 m))))],[arrB T (part xs (digs n u) o m)]⟩,fun m => m.1,
   ⟨⟨n,Nat.le_refl _⟩,[0],⟨rfl,⟨?_,rfl,trivial⟩,rfl⟩,rfl,eq_u64 (by rw [Nat.sub_self,Nat.pow_zero,Nat.div_one]),rfl,trivial⟩,fun ⟨m,hm⟩ => ?_⟩
 · have := part_all xs (digs n u) o
   rw [hdl] at this
   rw [this]
   rfl
 obtain ⟨v,hv⟩:∃ v,v = u / 10 ^ (n - m) := ⟨_,rfl⟩
 have hvu:v ≤ u := by rw [hv]; exact Nat.div_le_self _ _
 have hvm:v < 10 ^ m := by rw [hv]; exact last_small hun hm
 conv => whnf
 rw [← hv]
 refine ⟨fun g => ?_,fun g => ?_⟩
 · have g:8 ≤ m := ge_t g
   conv => whnf
   rw [ntmod v 100000000,nwrap32 (n := v % 100000000) (by omega)]
   obtain ⟨x,hx⟩:∃ x,x = v % 100000000 := ⟨_,rfl⟩
   rw [← hx]
   rw [ntdiv v 100000000,nwrap64 (n := v / 100000000) (by omega),ntdiv x 10000,nwrap32 (n := x / 10000) (by omega),ntmod x 10000]
   obtain ⟨y1,hy1⟩:∃ y,y = x / 10000 := ⟨_,rfl⟩
   obtain ⟨y0,hy0⟩:∃ y,y = x % 10000 := ⟨_,rfl⟩
   rw [← hy1,← hy0]
   rw [ntdiv y0 100,nwrap32 (n := y0 / 100) (by omega),nmul (y0 / 100) 2,nwrap32 (n := y0 / 100 * 2) (by omega),ntmod y0 100,nmul (y0 % 100) 2,nwrap32 (n := y0 % 100 * 2) (by omega),ntdiv y1 100,nwrap32 (n := y1 / 100) (by omega),nmul (y1 / 100) 2,nwrap32 (n := y1 / 100 * 2) (by omega),ntmod y1 100,nmul (y1 % 100) 2,nwrap32 (n := y1 % 100 * 2) (by omega)]
   obtain ⟨k0,hk0⟩:∃ y,y = y0 % 100 := ⟨_,rfl⟩
   obtain ⟨k1,hk1⟩:∃ y,y = y0 / 100 := ⟨_,rfl⟩
   obtain ⟨k2,hk2⟩:∃ y,y = y1 % 100 := ⟨_,rfl⟩
   obtain ⟨k3,hk3⟩:∃ y,y = y1 / 100 := ⟨_,rfl⟩
   rw [← hk0,← hk1,← hk2,← hk3]
   conv => whnf
   rw [nadd (k0 * 2) 1,nwrap32 (n := k0 * 2 + 1) (by omega)]
   refine ⟨_,si_lo (k := k0) (by omega),?_⟩
   conv => whnf
   refine ⟨_,si_hi (k := k0) (by omega),?_⟩
   conv => whnf
   rw [nsub (a := m) (b := 1) (by omega),nwrapi (n := m - 1) (by omega)]
   refine ⟨by omega,?_⟩
   conv => whnf
   obtain ⟨z1,hz1⟩ := part_get (xs := xs) (D := digs n u) (o := o) (m := m - 0) (j := m - 1) (by omega) (by omega) (by omega)
   refine ⟨z1,((48 + k0 % 10:Nat):Int),hz1,?_,?_⟩
   · show [CV.val (.int .u8 ((48 + k0 % 10:Nat):Int))] = [CV.val (.int .u8 (((UInt8.ofNat (48 + k0 % 10)).toNat:Nat):Int))]
     rw [u8_nat (by omega)]
   conv => whnf
   refine ⟨trivial,?_⟩
   have e1:(part xs (digs n u) o m).set (o + ((m - 1:Nat):Int).toNat) ((48 + k0 % 10:Nat):Int) = part xs (digs n u) o (m - 1) := by
     rw [Int.toNat_natCast]
     have := part_step (xs := xs) (n := n) (u := u) (o := o) (m := m - 1) (p := 0) (y := ((48 + k0 % 10:Nat):Int)) hlen (by omega) ?_
     · rw [show m - 1 + 1 = m by omega] at this
       exact this
     · rw [show m - 1 + 0 + 1 = m by omega,← hv]
       omega
   rw [e1]
   conv => whnf
   rw [nsub (a := m) (b := 2) (by omega),nwrapi (n := m - 2) (by omega)]
   refine ⟨by omega,?_⟩
   conv => whnf
   obtain ⟨z2,hz2⟩ := part_get (xs := xs) (D := digs n u) (o := o) (m := m - 1) (j := m - 2) (by omega) (by omega) (by omega)
   refine ⟨z2,((48 + k0 / 10:Nat):Int),hz2,?_,?_⟩
   · show [CV.val (.int .u8 ((48 + k0 / 10:Nat):Int))] = [CV.val (.int .u8 (((UInt8.ofNat (48 + k0 / 10)).toNat:Nat):Int))]
     rw [u8_nat (by omega)]
   conv => whnf
   refine ⟨trivial,?_⟩
   have e2:(part xs (digs n u) o (m - 1)).set (o + ((m - 2:Nat):Int).toNat) ((48 + k0 / 10:Nat):Int) = part xs (digs n u) o (m - 2) := by
     rw [Int.toNat_natCast]
     have := part_step (xs := xs) (n := n) (u := u) (o := o) (m := m - 2) (p := 1) (y := ((48 + k0 / 10:Nat):Int)) hlen (by omega) ?_
     · rw [show m - 2 + 1 = m - 1 by omega] at this
       exact this
     · rw [show m - 2 + 1 + 1 = m by omega,← hv]
       omega
   rw [e2]
   conv => whnf
   rw [nadd (k1 * 2) 1,nwrap32 (n := k1 * 2 + 1) (by omega)]
   refine ⟨_,si_lo (k := k1) (by omega),?_⟩
   conv => whnf
   refine ⟨_,si_hi (k := k1) (by omega),?_⟩
   conv => whnf
   rw [nsub (a := m) (b := 3) (by omega),nwrapi (n := m - 3) (by omega)]
   refine ⟨by omega,?_⟩
   conv => whnf
   obtain ⟨z3,hz3⟩ := part_get (xs := xs) (D := digs n u) (o := o) (m := m - 2) (j := m - 3) (by omega) (by omega) (by omega)
   refine ⟨z3,((48 + k1 % 10:Nat):Int),hz3,?_,?_⟩
   · show [CV.val (.int .u8 ((48 + k1 % 10:Nat):Int))] = [CV.val (.int .u8 (((UInt8.ofNat (48 + k1 % 10)).toNat:Nat):Int))]
     rw [u8_nat (by omega)]
   conv => whnf
   refine ⟨trivial,?_⟩
   have e3:(part xs (digs n u) o (m - 2)).set (o + ((m - 3:Nat):Int).toNat) ((48 + k1 % 10:Nat):Int) = part xs (digs n u) o (m - 3) := by
     rw [Int.toNat_natCast]
     have := part_step (xs := xs) (n := n) (u := u) (o := o) (m := m - 3) (p := 2) (y := ((48 + k1 % 10:Nat):Int)) hlen (by omega) ?_
     · rw [show m - 3 + 1 = m - 2 by omega] at this
       exact this
     · rw [show m - 3 + 2 + 1 = m by omega,← hv]
       omega
   rw [e3]
   conv => whnf
   rw [nsub (a := m) (b := 4) (by omega),nwrapi (n := m - 4) (by omega)]
   refine ⟨by omega,?_⟩
   conv => whnf
   obtain ⟨z4,hz4⟩ := part_get (xs := xs) (D := digs n u) (o := o) (m := m - 3) (j := m - 4) (by omega) (by omega) (by omega)
   refine ⟨z4,((48 + k1 / 10:Nat):Int),hz4,?_,?_⟩
   · show [CV.val (.int .u8 ((48 + k1 / 10:Nat):Int))] = [CV.val (.int .u8 (((UInt8.ofNat (48 + k1 / 10)).toNat:Nat):Int))]
     rw [u8_nat (by omega)]
   conv => whnf
   refine ⟨trivial,?_⟩
   have e4:(part xs (digs n u) o (m - 3)).set (o + ((m - 4:Nat):Int).toNat) ((48 + k1 / 10:Nat):Int) = part xs (digs n u) o (m - 4) := by
     rw [Int.toNat_natCast]
     have := part_step (xs := xs) (n := n) (u := u) (o := o) (m := m - 4) (p := 3) (y := ((48 + k1 / 10:Nat):Int)) hlen (by omega) ?_
     · rw [show m - 4 + 1 = m - 3 by omega] at this
       exact this
     · rw [show m - 4 + 3 + 1 = m by omega,← hv]
       omega
   rw [e4]
   conv => whnf
   rw [nadd (k2 * 2) 1,nwrap32 (n := k2 * 2 + 1) (by omega)]
   refine ⟨_,si_lo (k := k2) (by omega),?_⟩
   conv => whnf
   refine ⟨_,si_hi (k := k2) (by omega),?_⟩
   conv => whnf
   rw [nsub (a := m) (b := 5) (by omega),nwrapi (n := m - 5) (by omega)]
   refine ⟨by omega,?_⟩
   conv => whnf
   obtain ⟨z5,hz5⟩ := part_get (xs := xs) (D := digs n u) (o := o) (m := m - 4) (j := m - 5) (by omega) (by omega) (by omega)
   refine ⟨z5,((48 + k2 % 10:Nat):Int),hz5,?_,?_⟩
   · show [CV.val (.int .u8 ((48 + k2 % 10:Nat):Int))] = [CV.val (.int .u8 (((UInt8.ofNat (48 + k2 % 10)).toNat:Nat):Int))]
     rw [u8_nat (by omega)]
   conv => whnf
   refine ⟨trivial,?_⟩
   have e5:(part xs (digs n u) o (m - 4)).set (o + ((m - 5:Nat):Int).toNat) ((48 + k2 % 10:Nat):Int) = part xs (digs n u) o (m - 5) := by
     rw [Int.toNat_natCast]
     have := part_step (xs := xs) (n := n) (u := u) (o := o) (m := m - 5) (p := 4) (y := ((48 + k2 % 10:Nat):Int)) hlen (by omega) ?_
     · rw [show m - 5 + 1 = m - 4 by omega] at this
       exact this
     · rw [show m - 5 + 4 + 1 = m by omega,← hv]
       omega
   rw [e5]
   conv => whnf
   rw [nsub (a := m) (b := 6) (by omega),nwrapi (n := m - 6) (by omega)]
   refine ⟨by omega,?_⟩
   conv => whnf
   obtain ⟨z6,hz6⟩ := part_get (xs := xs) (D := digs n u) (o := o) (m := m - 5) (j := m - 6) (by omega) (by omega) (by omega)
   refine ⟨z6,((48 + k2 / 10:Nat):Int),hz6,?_,?_⟩
   · show [CV.val (.int .u8 ((48 + k2 / 10:Nat):Int))] = [CV.val (.int .u8 (((UInt8.ofNat (48 + k2 / 10)).toNat:Nat):Int))]
     rw [u8_nat (by omega)]
   conv => whnf
   refine ⟨trivial,?_⟩
   have e6:(part xs (digs n u) o (m - 5)).set (o + ((m - 6:Nat):Int).toNat) ((48 + k2 / 10:Nat):Int) = part xs (digs n u) o (m - 6) := by
     rw [Int.toNat_natCast]
     have := part_step (xs := xs) (n := n) (u := u) (o := o) (m := m - 6) (p := 5) (y := ((48 + k2 / 10:Nat):Int)) hlen (by omega) ?_
     · rw [show m - 6 + 1 = m - 5 by omega] at this
       exact this
     · rw [show m - 6 + 5 + 1 = m by omega,← hv]
       omega
   rw [e6]
   conv => whnf
   rw [nadd (k3 * 2) 1,nwrap32 (n := k3 * 2 + 1) (by omega)]
   refine ⟨_,si_lo (k := k3) (by omega),?_⟩
   conv => whnf
   refine ⟨_,si_hi (k := k3) (by omega),?_⟩
   conv => whnf
   rw [nsub (a := m) (b := 7) (by omega),nwrapi (n := m - 7) (by omega)]
   refine ⟨by omega,?_⟩
   conv => whnf
   obtain ⟨z7,hz7⟩ := part_get (xs := xs) (D := digs n u) (o := o) (m := m - 6) (j := m - 7) (by omega) (by omega) (by omega)
   refine ⟨z7,((48 + k3 % 10:Nat):Int),hz7,?_,?_⟩
   · show [CV.val (.int .u8 ((48 + k3 % 10:Nat):Int))] = [CV.val (.int .u8 (((UInt8.ofNat (48 + k3 % 10)).toNat:Nat):Int))]
     rw [u8_nat (by omega)]
   conv => whnf
   refine ⟨trivial,?_⟩
   have e7:(part xs (digs n u) o (m - 6)).set (o + ((m - 7:Nat):Int).toNat) ((48 + k3 % 10:Nat):Int) = part xs (digs n u) o (m - 7) := by
     rw [Int.toNat_natCast]
     have := part_step (xs := xs) (n := n) (u := u) (o := o) (m := m - 7) (p := 6) (y := ((48 + k3 % 10:Nat):Int)) hlen (by omega) ?_
     · rw [show m - 7 + 1 = m - 6 by omega] at this
       exact this
     · rw [show m - 7 + 6 + 1 = m by omega,← hv]
       omega
   rw [e7]
   conv => whnf
   rw [nsub (a := m) (b := 8) (by omega),nwrapi (n := m - 8) (by omega)]
   refine ⟨by omega,?_⟩
   conv => whnf
   obtain ⟨z8,hz8⟩ := part_get (xs := xs) (D := digs n u) (o := o) (m := m - 7) (j := m - 8) (by omega) (by omega) (by omega)
   refine ⟨z8,((48 + k3 / 10:Nat):Int),hz8,?_,?_⟩
   · show [CV.val (.int .u8 ((48 + k3 / 10:Nat):Int))] = [CV.val (.int .u8 (((UInt8.ofNat (48 + k3 / 10)).toNat:Nat):Int))]
     rw [u8_nat (by omega)]
   conv => whnf
   refine ⟨trivial,?_⟩
   have e8:(part xs (digs n u) o (m - 7)).set (o + ((m - 8:Nat):Int).toNat) ((48 + k3 / 10:Nat):Int) = part xs (digs n u) o (m - 8) := by
     rw [Int.toNat_natCast]
     have := part_step (xs := xs) (n := n) (u := u) (o := o) (m := m - 8) (p := 7) (y := ((48 + k3 / 10:Nat):Int)) hlen (by omega) ?_
     · rw [show m - 8 + 1 = m - 7 by omega] at this
       exact this
     · rw [show m - 8 + 7 + 1 = m by omega,← hv]
       omega
   rw [e8]
   conv => whnf
   refine ⟨⟨m - 8,by omega⟩,⟨[0],⟨rfl,⟨rfl,rfl,trivial⟩,rfl⟩,rfl,eq_u64 ?_,eq_i64 ?_,trivial⟩,?_⟩
   · rw [← pow_next (by omega) hm,← hv]
   · rw [nsub (by omega),nwrapi (by omega)]
   · show m - 8 < m
     omega
 · have g:m < 8 := ge_f g
   conv => whnf
   have hv8:v < 100000000 := Nat.lt_of_lt_of_le hvm (Nat.pow_le_pow_right (by omega) (show m ≤ 8 by omega))
   rw [nwrap32 (n := v) (by omega)]
   refine Or.inr ⟨{q:Nat // q ≤ n ∧ q < 4},fun ⟨q,_⟩ => ⟨[(0,.o (.c (.sli 0 1 o n c))),(4,.o (.c (.val (.int .i64 q)))),(12,.o (.c (.val (.int .u32 (u / 10 ^ (n - q):Nat)))))],[arrB T (part xs (digs n u) o q)]⟩,?_,?_⟩
   · conv => whnf
     refine ⟨fun g4 => ?_,fun g4 => ?_⟩
     · have g4:4 ≤ m := ge_t g4
       conv => whnf
       rw [ntmod v 10000,ntdiv v 10000,nwrap32 (n := v / 10000) (by omega)]
       obtain ⟨y0,hy0⟩:∃ y,y = v % 10000 := ⟨_,rfl⟩
       rw [← hy0]
       rw [ntdiv y0 100,nwrap32 (n := y0 / 100) (by omega),nmul (y0 / 100) 2,nwrap32 (n := y0 / 100 * 2) (by omega),ntmod y0 100,nmul (y0 % 100) 2,nwrap32 (n := y0 % 100 * 2) (by omega)]
       obtain ⟨k0,hk0⟩:∃ y,y = y0 % 100 := ⟨_,rfl⟩
       obtain ⟨k1,hk1⟩:∃ y,y = y0 / 100 := ⟨_,rfl⟩
       rw [← hk0,← hk1]
       conv => whnf
       rw [nadd (k0 * 2) 1,nwrap32 (n := k0 * 2 + 1) (by omega)]
       refine ⟨_,si_lo (k := k0) (by omega),?_⟩
       conv => whnf
       refine ⟨_,si_hi (k := k0) (by omega),?_⟩
       conv => whnf
       rw [nsub (a := m) (b := 1) (by omega),nwrapi (n := m - 1) (by omega)]
       refine ⟨by omega,?_⟩
       conv => whnf
       obtain ⟨z1,hz1⟩ := part_get (xs := xs) (D := digs n u) (o := o) (m := m - 0) (j := m - 1) (by omega) (by omega) (by omega)
       refine ⟨z1,((48 + k0 % 10:Nat):Int),hz1,?_,?_⟩
       · show [CV.val (.int .u8 ((48 + k0 % 10:Nat):Int))] = [CV.val (.int .u8 (((UInt8.ofNat (48 + k0 % 10)).toNat:Nat):Int))]
         rw [u8_nat (by omega)]
       conv => whnf
       refine ⟨trivial,?_⟩
       have e1:(part xs (digs n u) o m).set (o + ((m - 1:Nat):Int).toNat) ((48 + k0 % 10:Nat):Int) = part xs (digs n u) o (m - 1) := by
         rw [Int.toNat_natCast]
         have := part_step (xs := xs) (n := n) (u := u) (o := o) (m := m - 1) (p := 0) (y := ((48 + k0 % 10:Nat):Int)) hlen (by omega) ?_
         · rw [show m - 1 + 1 = m by omega] at this
           exact this
         · rw [show m - 1 + 0 + 1 = m by omega,← hv]
           omega
       rw [e1]
       conv => whnf
       rw [nsub (a := m) (b := 2) (by omega),nwrapi (n := m - 2) (by omega)]
       refine ⟨by omega,?_⟩
       conv => whnf
       obtain ⟨z2,hz2⟩ := part_get (xs := xs) (D := digs n u) (o := o) (m := m - 1) (j := m - 2) (by omega) (by omega) (by omega)
       refine ⟨z2,((48 + k0 / 10:Nat):Int),hz2,?_,?_⟩
       · show [CV.val (.int .u8 ((48 + k0 / 10:Nat):Int))] = [CV.val (.int .u8 (((UInt8.ofNat (48 + k0 / 10)).toNat:Nat):Int))]
         rw [u8_nat (by omega)]
       conv => whnf
       refine ⟨trivial,?_⟩
       have e2:(part xs (digs n u) o (m - 1)).set (o + ((m - 2:Nat):Int).toNat) ((48 + k0 / 10:Nat):Int) = part xs (digs n u) o (m - 2) := by
         rw [Int.toNat_natCast]
         have := part_step (xs := xs) (n := n) (u := u) (o := o) (m := m - 2) (p := 1) (y := ((48 + k0 / 10:Nat):Int)) hlen (by omega) ?_
         · rw [show m - 2 + 1 = m - 1 by omega] at this
           exact this
         · rw [show m - 2 + 1 + 1 = m by omega,← hv]
           omega
       rw [e2]
       conv => whnf
       rw [nadd (k1 * 2) 1,nwrap32 (n := k1 * 2 + 1) (by omega)]
       refine ⟨_,si_lo (k := k1) (by omega),?_⟩
       conv => whnf
       refine ⟨_,si_hi (k := k1) (by omega),?_⟩
       conv => whnf
       rw [nsub (a := m) (b := 3) (by omega),nwrapi (n := m - 3) (by omega)]
       refine ⟨by omega,?_⟩
       conv => whnf
       obtain ⟨z3,hz3⟩ := part_get (xs := xs) (D := digs n u) (o := o) (m := m - 2) (j := m - 3) (by omega) (by omega) (by omega)
       refine ⟨z3,((48 + k1 % 10:Nat):Int),hz3,?_,?_⟩
       · show [CV.val (.int .u8 ((48 + k1 % 10:Nat):Int))] = [CV.val (.int .u8 (((UInt8.ofNat (48 + k1 % 10)).toNat:Nat):Int))]
         rw [u8_nat (by omega)]
       conv => whnf
       refine ⟨trivial,?_⟩
       have e3:(part xs (digs n u) o (m - 2)).set (o + ((m - 3:Nat):Int).toNat) ((48 + k1 % 10:Nat):Int) = part xs (digs n u) o (m - 3) := by
         rw [Int.toNat_natCast]
         have := part_step (xs := xs) (n := n) (u := u) (o := o) (m := m - 3) (p := 2) (y := ((48 + k1 % 10:Nat):Int)) hlen (by omega) ?_
         · rw [show m - 3 + 1 = m - 2 by omega] at this
           exact this
         · rw [show m - 3 + 2 + 1 = m by omega,← hv]
           omega
       rw [e3]
       conv => whnf
       rw [nsub (a := m) (b := 4) (by omega),nwrapi (n := m - 4) (by omega)]
       refine ⟨by omega,?_⟩
       conv => whnf
       obtain ⟨z4,hz4⟩ := part_get (xs := xs) (D := digs n u) (o := o) (m := m - 3) (j := m - 4) (by omega) (by omega) (by omega)
       refine ⟨z4,((48 + k1 / 10:Nat):Int),hz4,?_,?_⟩
       · show [CV.val (.int .u8 ((48 + k1 / 10:Nat):Int))] = [CV.val (.int .u8 (((UInt8.ofNat (48 + k1 / 10)).toNat:Nat):Int))]
         rw [u8_nat (by omega)]
       conv => whnf
       refine ⟨trivial,?_⟩
       have e4:(part xs (digs n u) o (m - 3)).set (o + ((m - 4:Nat):Int).toNat) ((48 + k1 / 10:Nat):Int) = part xs (digs n u) o (m - 4) := by
         rw [Int.toNat_natCast]
         have := part_step (xs := xs) (n := n) (u := u) (o := o) (m := m - 4) (p := 3) (y := ((48 + k1 / 10:Nat):Int)) hlen (by omega) ?_
         · rw [show m - 4 + 1 = m - 3 by omega] at this
           exact this
         · rw [show m - 4 + 3 + 1 = m by omega,← hv]
           omega
       rw [e4]
       conv => whnf
       refine ⟨⟨m - 4,by omega,by omega⟩,⟨[0],⟨rfl,⟨rfl,rfl,trivial⟩,rfl⟩,rfl,eq_i64 ?_,eq_u32 ?_,trivial⟩⟩
       · rw [nsub (by omega),nwrapi (by omega)]
       · rw [← pow_next (by omega) hm,← hv]
     · have g4:m < 4 := ge_f g4
       conv => whnf
       exact ⟨⟨m,hm,g4⟩,⟨[0],⟨rfl,⟨rfl,rfl,trivial⟩,rfl⟩,rfl,rfl,eq_u32 (by rw [hv]),trivial⟩⟩
   clear hv8 hvm hvu hv v
   rintro ⟨m,hm,hm4⟩
   obtain ⟨v,hv⟩:∃ v,v = u / 10 ^ (n - m) := ⟨_,rfl⟩
   have hvm:v < 10 ^ m := by rw [hv]; exact last_small hun hm
   have hv8:v < 10000 := Nat.lt_of_lt_of_le hvm (Nat.pow_le_pow_right (by omega) (show m ≤ 4 by omega))
   conv => whnf
   refine Or.inr ⟨{q:Nat // q ≤ n ∧ q < 2},fun ⟨q,_⟩ => ⟨[(0,.o (.c (.sli 0 1 o n c))),(4,.o (.c (.val (.int .i64 q)))),(12,.o (.c (.val (.int .u32 (u / 10 ^ (n - q):Nat)))))],[arrB T (part xs (digs n u) o q)]⟩,?_,?_⟩
   · conv => whnf
     rw [← hv]
     refine ⟨fun g4 => ?_,fun g4 => ?_⟩
     · have g4:2 ≤ m := ge_t g4
       conv => whnf
       rw [ntmod v 100,ntdiv v 100,nwrap32 (n := v / 100) (by omega),nmul (v % 100) 2,nwrap32 (n := v % 100 * 2) (by omega)]
       obtain ⟨k0,hk0⟩:∃ y,y = v % 100 := ⟨_,rfl⟩
       rw [← hk0]
       conv => whnf
       rw [nadd (k0 * 2) 1,nwrap32 (n := k0 * 2 + 1) (by omega)]
       refine ⟨_,si_lo (k := k0) (by omega),?_⟩
       conv => whnf
       refine ⟨_,si_hi (k := k0) (by omega),?_⟩
       conv => whnf
       rw [nsub (a := m) (b := 1) (by omega),nwrapi (n := m - 1) (by omega)]
       refine ⟨by omega,?_⟩
       conv => whnf
       obtain ⟨z1,hz1⟩ := part_get (xs := xs) (D := digs n u) (o := o) (m := m - 0) (j := m - 1) (by omega) (by omega) (by omega)
       refine ⟨z1,((48 + k0 % 10:Nat):Int),hz1,?_,?_⟩
       · show [CV.val (.int .u8 ((48 + k0 % 10:Nat):Int))] = [CV.val (.int .u8 (((UInt8.ofNat (48 + k0 % 10)).toNat:Nat):Int))]
         rw [u8_nat (by omega)]
       conv => whnf
       refine ⟨trivial,?_⟩
       have e1:(part xs (digs n u) o m).set (o + ((m - 1:Nat):Int).toNat) ((48 + k0 % 10:Nat):Int) = part xs (digs n u) o (m - 1) := by
         rw [Int.toNat_natCast]
         have := part_step (xs := xs) (n := n) (u := u) (o := o) (m := m - 1) (p := 0) (y := ((48 + k0 % 10:Nat):Int)) hlen (by omega) ?_
         · rw [show m - 1 + 1 = m by omega] at this
           exact this
         · rw [show m - 1 + 0 + 1 = m by omega,← hv]
           omega
       rw [e1]
       conv => whnf
       rw [nsub (a := m) (b := 2) (by omega),nwrapi (n := m - 2) (by omega)]
       refine ⟨by omega,?_⟩
       conv => whnf
       obtain ⟨z2,hz2⟩ := part_get (xs := xs) (D := digs n u) (o := o) (m := m - 1) (j := m - 2) (by omega) (by omega) (by omega)
       refine ⟨z2,((48 + k0 / 10:Nat):Int),hz2,?_,?_⟩
       · show [CV.val (.int .u8 ((48 + k0 / 10:Nat):Int))] = [CV.val (.int .u8 (((UInt8.ofNat (48 + k0 / 10)).toNat:Nat):Int))]
         rw [u8_nat (by omega)]
       conv => whnf
       refine ⟨trivial,?_⟩
       have e2:(part xs (digs n u) o (m - 1)).set (o + ((m - 2:Nat):Int).toNat) ((48 + k0 / 10:Nat):Int) = part xs (digs n u) o (m - 2) := by
         rw [Int.toNat_natCast]
         have := part_step (xs := xs) (n := n) (u := u) (o := o) (m := m - 2) (p := 1) (y := ((48 + k0 / 10:Nat):Int)) hlen (by omega) ?_
         · rw [show m - 2 + 1 = m - 1 by omega] at this
           exact this
         · rw [show m - 2 + 1 + 1 = m by omega,← hv]
           omega
       rw [e2]
       conv => whnf
       refine ⟨⟨m - 2,by omega,by omega⟩,⟨[0],⟨rfl,⟨rfl,rfl,trivial⟩,rfl⟩,rfl,eq_i64 ?_,eq_u32 ?_,trivial⟩⟩
       · rw [nsub (by omega),nwrapi (by omega)]
       · rw [← pow_next (by omega) hm,← hv]
     · have g4:m < 2 := ge_f g4
       conv => whnf
       exact ⟨⟨m,hm,g4⟩,⟨[0],⟨rfl,⟨rfl,rfl,trivial⟩,rfl⟩,rfl,rfl,eq_u32 (by rw [hv]),trivial⟩⟩
   clear hv8 hvm hv v
   rintro ⟨m,hm,hm4⟩
   obtain ⟨v,hv⟩:∃ v,v = u / 10 ^ (n - m) := ⟨_,rfl⟩
   have hvm:v < 10 ^ m := by rw [hv]; exact last_small hun hm
   have hv8:v < 10 := Nat.lt_of_lt_of_le hvm (Nat.pow_le_pow_right (by omega) (show m ≤ 1 by omega))
   conv => whnf
   rw [← hv]
   refine ⟨fun g4 => ?_,fun g4 => ?_⟩
   · have g4:0 < m := gt_t g4
     obtain rfl:m = 1 := by omega
     conv => whnf
     refine ⟨by omega,?_⟩
     conv => whnf
     obtain ⟨z,hz⟩ := part_get (xs := xs) (D := digs n u) (o := o) (m := 1) (j := 0) (by omega) (by omega) (by omega)
     refine ⟨z,((48 + v:Nat):Int),hz,?_,?_⟩
     · show [CV.val (.int .u8 ((48 + v:Nat):Int))] = [CV.val (.int .u8 (IntKind.u8.wrap (IntKind.u32.wrap (((48:Nat):Int) + (v:Int)))))]
       rw [nadd,nwrap32 (by omega),nwrap8 (by omega)]
     conv => whnf
     refine Or.inl ⟨rfl,?_⟩
     have := part_step (xs := xs) (n := n) (u := u) (o := o) (m := 0) (p := 0) (y := ((48 + v:Nat):Int)) hlen (by omega) (by rw [show n - (0 + 0 + 1) = n - 1 by omega,← hv,Nat.pow_zero,Nat.div_one]; omega)
     rw [← this]
     rfl
   · have g4:m ≤ 0 := gt_f g4
     obtain rfl:m = 0 := by omega
     conv => whnf
     exact Or.inl ⟨rfl,rfl⟩
end Go.Proofs.YtokkphocaloelaaGreatDoor

end
section
namespace Go.Proofs.YtokkphocaloelaaGreatDoor
open Go Go.Vc
set_option maxRecDepth 100000
set_option maxHeartbeats 8000000

theorem strOf_size' (l:List Int):(strOf l).size = l.length := by
 have:∀ (l:List Int) (r:ByteArray),(l.foldl (fun r n => r.push (UInt8.ofNat n.toNat)) r).size = r.size + l.length := by
   intro l
   induction l with
   | nil => intro r; rfl
   | cons x l ih =>
     intro r
     rw [List.foldl_cons,ih,ByteArray.size_push,List.length_cons]
     omega
 rw [strOf,this]
 show 0 + l.length = l.length
 omega
def fmtL (x:Int):List Int :=
 if x < 0 then 45 :: digs (ndig x.natAbs) x.natAbs
 else if x < 10 then digs 1 x.toNat
 else if x < 100 then digs 2 x.toNat
 else digs (ndig x.natAbs) x.natAbs
theorem fmtL_len {x:Int} (h:x.natAbs < 18446744073709551616):(fmtL x).length ≤ 21 := by
 have := ndig_le h
 unfold fmtL
 split
 · rw [List.length_cons,digs_len]; omega
 split
 · rw [digs_len]; omega
 split
 · rw [digs_len]; omega
 · rw [digs_len]; omega
theorem arr_part (D:List Int):part (List.replicate 24 0) D 1 0 = 0 :: (D ++ (List.replicate 24 (0:Int)).drop (1 + D.length)) := rfl
theorem iFmtIntW (w0:World) (hp:pows w0) {x:Int} (h1:-9223372036854775808 ≤ x) (h2:x < 9223372036854775808):CallsA Tryz.prog w0 57 [.c (.val (.int .i64 x)),.c (.val (.int .i64 ((10:Nat):Int)))] [] fun r H => r = .o (.c (.val (.string (strOf (fmtL x))))) ∧ H = [] := by
 refine callsA_of_ev c57_ ?_
 conv => whnf
 refine Or.inl ?_
 conv => whnf
 refine ⟨fun _ => ?_,fun g => absurd g (by decide)⟩
 conv => whnf
 refine Or.inr ⟨{_q:Unit // ¬ (0 ≤ x ∧ x < 100)},fun _ => ⟨[(0,.o (.c (.val (.int .i64 x))))],[]⟩,?_,?_⟩
 · have hsm:0 ≤ x → x < 100 → CallsA Tryz.prog w0 98 [.c (.val (.int .i64 x))] [] fun r H' => r = .o (.c (.val (.string (strOf (fmtL x))))) ∧ H' = [] := by
     intro g1 g2
     have := smallW w0 [] (n := x.toNat) (by omega)
     rw [Int.toNat_of_nonneg g1] at this
     have e:(if x.toNat < 10 then digs 1 x.toNat else digs 2 x.toNat) = fmtL x := by
       unfold fmtL
       rw [if_neg (show ¬ x < 0 by omega)]
       by_cases h:x < 10
       · rw [if_pos (show x.toNat < 10 by omega),if_pos h]
       · rw [if_neg (show ¬ x.toNat < 10 by omega),if_neg h,if_pos g2]
     rw [e] at this
     exact this
   conv => whnf
   refine ⟨fun g => ?_,fun g => ?_⟩
   · have g:(0:Int) ≤ x := of_decide_eq_true g
     conv => whnf
     refine ⟨fun g2 => ?_,fun g2 => ?_⟩
     · have g2:x < 100 := of_decide_eq_true g2
       conv => whnf
       refine (hsm g g2).mono ?_
       rintro _ _ ⟨rfl,rfl⟩
       conv => whnf
       exact Or.inl ⟨rfl,rfl⟩
     · have g2:¬ x < 100 := of_decide_eq_false g2
       conv => whnf
       exact ⟨⟨(),fun h => g2 h.2⟩,[],⟨rfl,trivial,rfl⟩,rfl,trivial⟩
   · have g:¬ (0:Int) ≤ x := of_decide_eq_false g
     conv => whnf
     exact ⟨⟨(),fun h => g h.1⟩,[],⟨rfl,trivial,rfl⟩,rfl,trivial⟩
 rintro ⟨⟨⟩,hx⟩
 obtain ⟨u,hu⟩:∃ u,u = x.natAbs := ⟨_,rfl⟩
 obtain ⟨nd,hnd⟩:∃ nd,nd = ndig u := ⟨_,rfl⟩
 have hu2:u < 18446744073709551616 := by omega
 have hnd20:nd ≤ 20 := by rw [hnd]; exact ndig_le hu2
 have hnd1:1 ≤ nd := by rw [hnd]; exact ndig_pos (by omega) hu2
 have hun:u < 10 ^ nd := by rw [hnd]; exact lt_ndig hu2
 have hrep:(List.replicate 24 (0:Int)).length = 24 := List.length_replicate
 have hb10 := base10W w0 (T := 180) (xs := List.replicate 24 0) (o := 1) (n := nd) (c := 23) (u := u) (by omega) hnd20 hu2 hun
 have hdl := digs_len nd u
 conv => whnf
 refine Or.inr ⟨Int,encI .u8,[],1,List.replicate 24 0,by omega,fun _ => rfl,rfl,by rw [hrep]; omega,?_⟩
 conv => whnf
 refine Or.inr ⟨Unit,fun _ => ⟨[(0,.o (.c (.val (.int .i64 x)))),(5,.o (.c (.ptr 0 0))),(6,.o (.c (.val (.int .u64 u))))],[arrB 180 (List.replicate 24 0)]⟩,?_,?_⟩
 · conv => whnf
   refine ⟨fun g => ?_,fun g => ?_⟩
   · have g:x < 0 := of_decide_eq_true g
     conv => whnf
     refine ⟨(),[0],⟨rfl,⟨rfl,rfl,trivial⟩,rfl⟩,rfl,rfl,eq_u64 ?_,trivial⟩
     rw [IntKind.wrap_u64,IntKind.wrap_u64]
     omega
   · have g:¬ x < 0 := of_decide_eq_false g
     conv => whnf
     refine ⟨(),[0],⟨rfl,⟨rfl,rfl,trivial⟩,rfl⟩,rfl,rfl,eq_u64 ?_,trivial⟩
     rw [IntKind.wrap_u64]
     omega
 rintro ⟨⟩
 conv => whnf
 refine (numDigitsW w0 _ hp hu2).mono ?_
 rintro _ _ ⟨rfl,rfl⟩
 rw [← hnd]
 conv => whnf
 rw [nadd 1 nd,nwrapi (n := 1 + nd) (by omega)]
 refine ⟨⟨⟨by omega,by omega,by omega⟩,by omega⟩,?_⟩
 conv => whnf
 have e1:((1 + nd:Nat):Int).toNat - ((1:Nat):Int).toNat = nd := by omega
 rw [e1]
 refine hb10.mono ?_
 rintro _ _ ⟨rfl,rfl⟩
 rw [arr_part]
 conv => whnf
 refine Or.inl ?_
 conv => whnf
 refine ⟨fun g => ?_,fun g => ?_⟩
 · have g:x < 0 := of_decide_eq_true g
   conv => whnf
   refine ⟨by omega,?_⟩
   conv => whnf
   refine ⟨0,45,rfl,rfl,?_⟩
   conv => whnf
   rw [nadd 1 nd,nwrapi (n := 1 + nd) (by omega)]
   refine ⟨⟨⟨by omega,by omega⟩,by omega⟩,Or.inl ?_⟩
   conv => whnf
   refine ⟨trivial,45 :: digs nd u,⟨rfl,rfl,?_,?_,?_⟩,?_⟩
   · show 0 + ((1 + nd:Nat):Int).toNat ≤ (45 :: (digs nd u ++ (List.replicate 24 (0:Int)).drop (1 + (digs nd u).length))).length
     rw [List.length_cons,List.length_append]
     omega
   · show (45 :: digs nd u).length = _
     rw [List.length_cons]
     omega
   · show flat (encI .u8) [] _ = flat (encI .u8) [] (List.take ((1 + nd:Nat):Int).toNat (45 :: (digs nd u ++ (List.replicate 24 (0:Int)).drop (1 + (digs nd u).length))))
     rw [Int.toNat_natCast,Nat.add_comm,List.take_succ_cons,List.take_append_of_le_length (by omega),List.take_of_length_le (by omega)]
   · conv => whnf
     refine Or.inr ⟨[],.o (.c (.val (.string (strOf (fmtL x))))),[],⟨rfl,trivial,rfl⟩,?_,rfl,rfl⟩
     unfold fmtL
     rw [if_pos g,← hu,← hnd]
     rfl
 · have g:¬ x < 0 := of_decide_eq_false g
   conv => whnf
   rw [nadd 1 nd,nwrapi (n := 1 + nd) (by omega)]
   refine ⟨⟨⟨by omega,by omega,by omega⟩,by omega⟩,?_⟩
   conv => whnf
   rw [e1]
   refine ⟨trivial,digs nd u,⟨rfl,rfl,?_,hdl,?_⟩,?_⟩
   · show 1 + nd ≤ (0 :: (digs nd u ++ (List.replicate 24 (0:Int)).drop (1 + (digs nd u).length))).length
     rw [List.length_cons,List.length_append]
     omega
   · show flat (encI .u8) [] _ = flat (encI .u8) [] (List.take nd (digs nd u ++ (List.replicate 24 (0:Int)).drop (1 + (digs nd u).length)))
     rw [List.take_append_of_le_length (by omega),List.take_of_length_le (by omega)]
   · conv => whnf
     refine Or.inr ⟨[],.o (.c (.val (.string (strOf (fmtL x))))),[],⟨rfl,trivial,rfl⟩,?_,rfl,rfl⟩
     unfold fmtL
     rw [if_neg g,if_neg (show ¬ x < 10 by omega),if_neg (show ¬ x < 100 by omega),← hu,← hnd]
     rfl
theorem fmtIntW (w0:World) (hp:pows w0) {x:Int} (h1:-9223372036854775808 ≤ x) (h2:x < 9223372036854775808):CallsA Tryz.prog w0 32 [.c (.val (.int .i64 x)),.c (.val (.int .i64 ((10:Nat):Int)))] [] fun r H => r = .o (.c (.val (.string (strOf (fmtL x))))) ∧ H = [] := by
 refine callsA_of_ev c32_ ?_
 conv => whnf
 refine (iFmtIntW w0 hp h1 h2).mono ?_
 rintro _ _ ⟨rfl,rfl⟩
 conv => whnf
 exact Or.inl ⟨rfl,rfl⟩
theorem strOf_fold' (b:List Int):∀ r:ByteArray,b.foldl (fun r n => r.push (UInt8.ofNat n.toNat)) r = r ++ strOf b := by
 induction b with
 | nil =>
   intro r
   show r = r ++ ByteArray.empty
   rw [ByteArray.append_empty]
 | cons x t ih =>
   intro r
   show t.foldl _ (r.push _) = r ++ t.foldl _ (ByteArray.empty.push _)
   rw [ih,ih,← ByteArray.append_assoc]
   congr 1
   apply ByteArray.ext
   simp
theorem strOf_append' (a b:List Int):strOf (a ++ b) = strOf a ++ strOf b := by
 show (a ++ b).foldl _ ByteArray.empty = _
 rw [List.foldl_append,strOf_fold']
 rfl
end Go.Proofs.YtokkphocaloelaaGreatDoor

end
section
namespace Go.Proofs.YtokkphocaloelaaGreatDoor
open Go Go.Vc
set_option maxRecDepth 100000
set_option maxHeartbeats 8000000

def fmtU (u:Nat):List Int := if u < 10 then digs 1 u else if u < 100 then digs 2 u else digs (ndig u) u
theorem fmtU_len {u:Nat} (h:u < 18446744073709551616):(fmtU u).length ≤ 20 := by
 have := ndig_le h
 unfold fmtU
 split
 · rw [digs_len]; omega
 split
 · rw [digs_len]; omega
 · rw [digs_len]; omega
theorem arr_part0 (D:List Int):part (List.replicate 24 0) D 0 0 = D ++ (List.replicate 24 (0:Int)).drop D.length := by
 unfold part
 simp
theorem iFmtUintW (w0:World) (hp:pows w0) {u:Nat} (hu2:u < 18446744073709551616):CallsA Tryz.prog w0 56 [.c (.val (.int .u64 (u:Nat))),.c (.val (.int .i64 ((10:Nat):Int)))] [] fun r H => r = .o (.c (.val (.string (strOf (fmtU u))))) ∧ H = [] := by
 refine callsA_of_ev c56_ ?_
 conv => whnf
 refine Or.inl ?_
 conv => whnf
 refine ⟨fun _ => ?_,fun g => absurd g (by decide)⟩
 conv => whnf
 refine Or.inl ?_
 conv => whnf
 refine ⟨fun g => ?_,fun g => ?_⟩
 · have g:u < 100 := lt_t (b := 100) g
   conv => whnf
   rw [nwrapi (n := u) (by omega)]
   refine (smallW w0 [] (n := u) g).mono ?_
   rintro _ _ ⟨rfl,rfl⟩
   conv => whnf
   refine Or.inl ⟨?_,rfl⟩
   unfold fmtU
   by_cases h:u < 10
   · rw [if_pos h,if_pos h]; rfl
   · rw [if_neg h,if_neg h,if_pos g]; rfl
 have g:¬ u < 100 := fun h => absurd (lt_f (b := 100) g) (by omega)
 obtain ⟨nd,hnd⟩:∃ nd,nd = ndig u := ⟨_,rfl⟩
 have hnd20:nd ≤ 20 := by rw [hnd]; exact ndig_le hu2
 have hnd1:1 ≤ nd := by rw [hnd]; exact ndig_pos (by omega) hu2
 have hun:u < 10 ^ nd := by rw [hnd]; exact lt_ndig hu2
 have hrep:(List.replicate 24 (0:Int)).length = 24 := List.length_replicate
 have hb10 := base10W w0 (T := 180) (xs := List.replicate 24 0) (o := 0) (n := nd) (c := 24) (u := u) (by omega) hnd20 hu2 hun
 have hdl := digs_len nd u
 conv => whnf
 refine Or.inr ⟨Int,encI .u8,[],1,List.replicate 24 0,by omega,fun _ => rfl,rfl,by rw [hrep]; omega,?_⟩
 conv => whnf
 refine (numDigitsW w0 _ hp hu2).mono ?_
 rintro _ _ ⟨rfl,rfl⟩
 rw [← hnd]
 conv => whnf
 refine ⟨⟨⟨by omega,by omega⟩,by omega⟩,Or.inl ?_⟩
 rw [Int.toNat_natCast]
 conv => whnf
 refine hb10.mono ?_
 rintro _ _ ⟨rfl,rfl⟩
 rw [arr_part0]
 conv => whnf
 refine ⟨⟨⟨by omega,by omega⟩,by omega⟩,Or.inl ?_⟩
 rw [Int.toNat_natCast]
 conv => whnf
 refine ⟨trivial,digs nd u,⟨rfl,rfl,?_,hdl,?_⟩,?_⟩
 · show 0 + nd ≤ (digs nd u ++ (List.replicate 24 (0:Int)).drop (digs nd u).length).length
   rw [List.length_append]
   omega
 · show flat (encI .u8) [] _ = flat (encI .u8) [] (List.take nd (digs nd u ++ (List.replicate 24 (0:Int)).drop (digs nd u).length))
   rw [List.take_append_of_le_length (by omega),List.take_of_length_le (by omega)]
 · conv => whnf
   refine Or.inr ⟨[],.o (.c (.val (.string (strOf (fmtU u))))),[],⟨rfl,trivial,rfl⟩,?_,rfl,rfl⟩
   unfold fmtU
   rw [if_neg (show ¬ u < 10 by omega),if_neg g,← hnd]
   rfl
theorem fmtUintW (w0:World) (hp:pows w0) {u:Nat} (hu2:u < 18446744073709551616):CallsA Tryz.prog w0 31 [.c (.val (.int .u64 (u:Nat))),.c (.val (.int .i64 ((10:Nat):Int)))] [] fun r H => r = .o (.c (.val (.string (strOf (fmtU u))))) ∧ H = [] := by
 refine callsA_of_ev c31_ ?_
 conv => whnf
 refine (iFmtUintW w0 hp hu2).mono ?_
 rintro _ _ ⟨rfl,rfl⟩
 conv => whnf
 exact Or.inl ⟨rfl,rfl⟩
end Go.Proofs.YtokkphocaloelaaGreatDoor

end
section
namespace Go.Proofs.YtokkphocaloelaaGreatDoor
open Go Go.Vc
set_option maxRecDepth 100000
set_option maxHeartbeats 8000000

def txtU (u:Nat):List Int := if u < 9223372036854775808 then fmtL (u:Int) else fmtU u
def numU (u:Nat):List Int := txtU u ++ [32]
def numsUL (l:List Nat):List Int := 91 :: l.flatMap numU ++ [93]
theorem txtU_len {u:Nat} (h:u < 18446744073709551616):(txtU u).length ≤ 21 := by
 unfold txtU
 split
 · exact fmtL_len (by omega)
 · have := fmtU_len h; omega
theorem numU_len:∀ {l:List Nat},(∀ x ∈ l,x < 18446744073709551616) → (l.flatMap numU).length ≤ 22 * l.length
 | [],_ => Nat.zero_le _
 | x :: l,h => by
   have h1 := numU_len (l := l) fun y hy => h y (List.mem_cons_of_mem _ hy)
   have h2 := txtU_len (u := x) (h x (List.mem_cons_self ..))
   rw [List.flatMap_cons,List.length_append,List.length_cons]
   unfold numU at h1 ⊢
   rw [List.length_append]
   show _ + 1 + _ ≤ _
   omega
def nuS (t:List Int) (n j:Nat):Env := [(3,.o (.c (.val (.string (strOf t))))),(6,.o (.c (.vec 0 n))),(7,.o (.c (.val (.int .i64 n)))),(8,.o (.c (.val (.int .i64 j))))]
theorem nuT {j:Nat} (l:List Nat) (h:l.length ≤ j):l.take j = l := List.take_of_length_le h
theorem numsUW (w0:World) (hp:pows w0) {l:List Nat} (hl:l.length ≤ 1099511627776) (hx:∀ x ∈ l,x < 18446744073709551616):CallsA Tryz.prog w0 14 [.c (.vec 0 l.length)] [grB l] fun r H => r = .o (.c (.val (.string (strOf (numsUL l))))) ∧ H = [grB l] := by
 refine callsA_of_ev c14_ ?_
 conv => whnf
 refine Or.inl ?_
 conv => whnf
 refine ⟨{j:Nat // j ≤ l.length},fun ⟨j,_⟩ => ⟨nuS (91 :: (l.take j).flatMap numU) l.length j,[grB l]⟩,fun j => l.length - j.1,⟨⟨0,Nat.zero_le _⟩,[0],⟨rfl,⟨rfl,rfl,trivial⟩,rfl⟩,rfl,rfl,rfl,rfl,trivial⟩,fun ⟨j,hj⟩ => ?_⟩
 conv => whnf
 refine ⟨fun h3 => ?_,fun h3 => ?_⟩
 · have h3:j < l.length := lt_t h3
   obtain ⟨x,hxj⟩:∃ x,l[j]? = some x := ⟨_,List.getElem?_eq_getElem h3⟩
   have hx2 := hx x (List.mem_of_getElem? hxj)
   have hxn:∀ y ∈ l.take j,y < 18446744073709551616 := fun y hy => hx y (List.mem_of_mem_take hy)
   have hsz := numU_len hxn
   have hfl := txtU_len hx2
   have hlt:(l.take j).length ≤ j := by rw [List.length_take]; omega
   have hrow:(l.map fun (n:Nat) => (n:Int))[j]? = some (x:Int) := by rw [List.getElem?_map,hxj]; rfl
   have fin1:strOf (91 :: (l.take j).flatMap numU) ++ (strOf (txtU x) ++ strOf [32]) = strOf (91 :: (l.take (j + 1)).flatMap numU) := by
     rw [← strOf_append',← strOf_append',List.cons_append,List.take_add_one,hxj,Option.toList_some,List.flatMap_append,List.flatMap_singleton]
     rfl
   have sz1:(strOf (txtU x)).size + (ByteArray.mk #[32]).size ≤ 9223372036854775807 := by
     rw [strOf_size']
     show (txtU x).length + 1 ≤ _
     omega
   have sz2:(strOf (91 :: (l.take j).flatMap numU)).size + (strOf (txtU x) ++ strOf [32]).size ≤ 9223372036854775807 := by
     rw [← strOf_append',strOf_size',strOf_size',List.length_append,List.length_cons]
     show _ + 1 + (_ + 1) ≤ _
     omega
   conv => whnf
   refine Or.inr ⟨Unit,fun _ => ⟨nuS (91 :: (l.take (j + 1)).flatMap numU) l.length j,[grB l]⟩,?_,fun _ => ?_⟩
   · conv => whnf
     refine ⟨⟨Int.natCast_nonneg j,Int.ofNat_lt.2 h3⟩,?_⟩
     conv => whnf
     refine ⟨_,hrow,?_⟩
     conv => whnf
     refine Or.inl ?_
     conv => whnf
     refine ⟨fun g => ?_,fun g => ?_⟩
     · have g:9223372036854775808 ≤ x := ge_t (b := 9223372036854775808) g
       have ht:fmtU x = txtU x := by unfold txtU; rw [if_neg (show ¬ x < 9223372036854775808 by omega)]
       conv => whnf
       refine ⟨fun _ => ?_,fun g2 => absurd (gt_f (b := 0) g2) (by omega)⟩
       conv => whnf
       refine (CallsA_frame rfl rfl (fmtUintW w0 hp hx2) _).mono ?_
       rintro _ _ ⟨rfl,rfl⟩
       rw [ht]
       conv => whnf
       refine ⟨sz1,?_⟩
       conv => whnf
       refine ⟨sz2,?_⟩
       conv => whnf
       exact ⟨(),[0],⟨rfl,⟨rfl,rfl,trivial⟩,rfl⟩,congrArg (fun z => some (AV.o (.c (.val (.string z))))) fin1,rfl,rfl,rfl,trivial⟩
     · have g:x < 9223372036854775808 := ge_f (b := 9223372036854775808) g
       have ht:fmtL (x:Int) = txtU x := by unfold txtU; rw [if_pos g]
       conv => whnf
       rw [nwrapi (n := x) g]
       refine (CallsA_frame rfl rfl (fmtIntW w0 hp (x := (x:Int)) (by omega) (by omega)) _).mono ?_
       rintro _ _ ⟨rfl,rfl⟩
       rw [ht]
       conv => whnf
       refine ⟨sz1,?_⟩
       conv => whnf
       refine ⟨sz2,?_⟩
       conv => whnf
       exact ⟨(),[0],⟨rfl,⟨rfl,rfl,trivial⟩,rfl⟩,congrArg (fun z => some (AV.o (.c (.val (.string z))))) fin1,rfl,rfl,rfl,trivial⟩
   conv => whnf
   exact ⟨⟨j + 1,h3⟩,⟨[0],⟨rfl,⟨rfl,rfl,trivial⟩,rfl⟩,rfl,rfl,rfl,eq_i64 (by rw [nadd,nwrapi (by omega)]),trivial⟩,by show l.length - (j + 1) < l.length - j; omega⟩
 · have h3:l.length ≤ j := lt_f h3
   have hsz := numU_len hx
   obtain ⟨l2,hl2⟩:∃ l2,l2 = l.take j := ⟨_,rfl⟩
   rw [← hl2]
   obtain rfl:l2 = l := hl2.trans (nuT l h3)
   conv => whnf
   refine ⟨?_,?_⟩
   · show (strOf (91 :: l2.flatMap numU)).size + 1 ≤ 9223372036854775807
     rw [strOf_size',List.length_cons]
     omega
   conv => whnf
   refine Or.inl ⟨?_,rfl⟩
   show AV.o (.c (.val (.string (strOf (91 :: l2.flatMap numU) ++ strOf [93])))) = _
   rw [← strOf_append']
   rfl
theorem numsUN (w0:World):CallsA Tryz.prog w0 14 [.c (.val (.slice none 0 0))] [] fun r H => r = .o (.c (.val (.string (strOf (numsUL []))))) ∧ H = [] := by
 refine callsA_of_ev c14_ ?_
 conv => whnf
 refine Or.inl ?_
 conv => whnf
 refine ⟨Unit,fun _ => ⟨[(3,.o (.c (.val (.string (strOf [91]))))),(7,.o (.c (.val (.int .i64 ((0:Nat):Int))))),(8,.o (.c (.val (.int .i64 ((0:Nat):Int)))))],[]⟩,fun _ => 0,⟨(),[],⟨rfl,trivial,rfl⟩,rfl,rfl,rfl,trivial⟩,fun _ => ?_⟩
 conv => whnf
 refine ⟨fun g => zF g,fun _ => ?_⟩
 conv => whnf
 refine ⟨by decide,?_⟩
 conv => whnf
 exact Or.inl ⟨rfl,rfl⟩
end Go.Proofs.YtokkphocaloelaaGreatDoor

end
section
section
namespace Go.Proofs.YtokkphocaloelaaGreatDoor
open Go Go.Vc
set_option maxRecDepth 100000

structure EncS where
 buf:List Int
 tail:List Int
 win:Nat
 nend:Nat
 rng:Nat
 low:Nat
 rem:Int
 ext:Nat
 total:Nat
def EncS.blk (e:EncS) (i j:Nat):Blk := .cells 134 [.vec i e.buf.length,.vec j e.tail.length,.val (.int .u64 e.win),.val (.int .u64 e.nend),.val (.int .u32 e.rng),.val (.int .u32 e.low),.val (.int .i64 e.rem),.val (.int .i64 e.ext),.val (.int .u64 e.total)]
def byteBlk (xs:List Int):Blk := .vec true 5 (encI .u8) [] 1 xs
def EncS.H (e:EncS):List Blk := [e.blk 1 2,byteBlk e.buf,byteBlk e.tail]
def EncS.init:EncS := ⟨[],[],0,0,2147483648,0,-1,0,33⟩
theorem encInit (w0:World):CallsA Tryz.prog w0 59 [.c (.ptr 0 0)] [.cells 134 [.val (.slice none 0 0),.val (.slice none 0 0),.val (.int .u64 0),.val (.int .u64 0),.val (.int .u32 0),.val (.int .u32 0),.val (.int .i64 0),.val (.int .i64 0),.val (.int .u64 0)]] fun r H => r = .t [] ∧ H = EncS.init.H := by
 refine callsA_of_ev c59_ ?_
 conv => whnf
 refine ⟨rfl,rfl,Or.inr ⟨5,Int,encI .u8,by omega,fun _ => rfl,?_⟩⟩
 conv => whnf
 refine ⟨rfl,rfl,Or.inr ⟨5,Int,encI .u8,by omega,fun _ => rfl,?_⟩⟩
 conv => whnf
 exact Or.inl ⟨rfl,rfl⟩
end Go.Proofs.YtokkphocaloelaaGreatDoor
end
section
namespace Go.Proofs.YtokkphocaloelaaGreatDoor
open Go Go.Vc
set_option maxRecDepth 100000

theorem encFinal (w0:World) (e:EncS):CallsA Tryz.prog w0 67 [.c (.ptr 0 0)] e.H fun r H => r = u32 e.rng ∧ H = e.H := by
 refine callsA_of_ev c67_ ?_
 conv => whnf
 exact Or.inl ⟨rfl,rfl⟩
def EncS.tell (e:EncS):Nat := e.total - len e.rng
theorem encTell (w0:World) (e:EncS) (h:e.total ≤ 4611686018427387904) (h1:1 ≤ e.rng) (h2:e.rng < 4294967296):CallsA Tryz.prog w0 68 [.c (.ptr 0 0)] e.H fun r H => r = u64 e.tell ∧ H = e.H := by
 have hl1 := le_len (n := e.rng) (k := 0) h1
 have hl2 := len_le (n := e.rng) (k := 32) h2
 refine callsA_of_ev c68_ ?_
 conv => whnf
 refine (len32 w0 e.H h2).mono ?_
 rintro _ _ ⟨rfl,rfl⟩
 conv => whnf
 refine Or.inl ?_
 conv => whnf
 simp (disch := omega) only [nwrap64]
 refine ⟨fun h3 => ?_,fun h3 => ?_⟩
 · have := beq_t h3
   omega
 · conv => whnf
   refine Or.inl ?_
   conv => whnf
   refine ⟨fun h4 => ?_,fun h4 => ?_⟩
   · have h4 := le_t h4
     conv => whnf
     refine Or.inl ⟨u64_of ?_,rfl⟩
     unfold EncS.tell
     omega
   · have h4 := le_f h4
     conv => whnf
     refine Or.inl ⟨u64_of ?_,rfl⟩
     unfold EncS.tell
     rw [nsub (by omega),nwrap64 (by omega)]
theorem EncS.embH {e:EncS} {H:List Blk} {e0 env:Env} (hd:H = e.H) (he:embE [0,1,2] env e0):EmbS 3 ⟨e0,e.H⟩ ⟨env,H⟩ := by
 subst hd
 exact ⟨[0,1,2],⟨rfl,⟨rfl,rfl,rfl,rfl,rfl,rfl,trivial⟩,rfl⟩,he⟩
def EncS.frac (e:EncS):Nat := Go.Proofs.YtokkphocaloelaaGreatDoor.frac e.total e.rng
theorem encTellFrac (w0:World) (d:EncS) (hnb:d.total ≤ 1152921504606846976) (h1:8388608 ≤ d.rng) (h2:d.rng < 4294967296):CallsA Tryz.prog w0 69 [.c (.ptr 0 0)] d.H fun r H => r = u64 d.frac ∧ H = d.H := by
 have hl1 := le_len (n := d.rng) (k := 23) h1
 have hl2 := len_le (n := d.rng) (k := 32) h2
 obtain ⟨ht1,ht2⟩ := top_bits h1
 refine callsA_of_ev c69_ ?_
 conv => whnf
 refine (len32 w0 d.H h2).mono ?_
 rintro _ _ ⟨rfl,rfl⟩
 conv => whnf
 refine Or.inl ?_
 conv => whnf
 simp (disch := omega) only [nwrap64]
 refine ⟨fun h3 => ?_,fun h3 => ?_⟩
 · have h3:((len d.rng:Nat):Int) = ((0:Nat):Int) := by simpa using h3
   omega
 · conv => whnf
   refine Or.inl ?_
   conv => whnf
   refine ⟨fun h4 => ?_,fun h4 => ?_⟩
   · have h4 := of_decide_eq_true h4
     have h4:((len d.rng:Nat):Int) < ((24:Nat):Int) := h4
     omega
   · conv => whnf
     simp (disch := omega) only [nsub,nwrap64]
     refine ⟨by omega,?_⟩
     conv => whnf
     simp (disch := omega) only [Int.toNat_natCast,nshr32,nwrap64]
     refine Or.inl ?_
     conv => whnf
     refine ⟨_root_.Fin 4,fun ⟨k,_⟩ => ⟨[(0,.o (.c (.ptr 0 0))),(3,.o (.c (.val (.int .u64 ((fracIter (d.rng / 2 ^ (len d.rng - 16),len d.rng) k).2:Nat))))),(4,.o (.c (.val (.int .u64 ((fracIter (d.rng / 2 ^ (len d.rng - 16),len d.rng) k).1:Nat))))),(33,.o (.c (.val (.int .i64 (k:Nat)))))],d.H⟩,fun k => 3 - k.1,⟨0,EncS.embH rfl ⟨rfl,rfl,rfl,rfl,trivial⟩⟩,fun ⟨k,hk⟩ => ?_⟩
     obtain ⟨a,b,c⟩ := fracIter_lt (p := (d.rng / 2 ^ (len d.rng - 16),len d.rng)) ht1 ht2 hl2 k (by omega)
     have hpk:2 ^ k ≤ 2 ^ 3 := Nat.pow_le_pow_right (by omega) (by omega)
     obtain ⟨a',b',c',d'⟩ := fracStep_lt a b
     conv => whnf
     refine ⟨fun h5 => ?_,fun h5 => ?_⟩
     · have h5 := of_decide_eq_true h5
       have h5:(k:Int) < ((3:Nat):Int) := h5
       conv => whnf
       refine Or.inl ?_
       conv => whnf
       have hs:fracIter (d.rng / 2 ^ (len d.rng - 16),len d.rng) (k + 1) = fracStep (fracIter (d.rng / 2 ^ (len d.rng - 16),len d.rng) k) := rfl
       generalize hq:fracIter (d.rng / 2 ^ (len d.rng - 16),len d.rng) k = q at *
       obtain ⟨r,l⟩ := q
       simp only at a b c d'
       have hb2:r * r / 32768 / 65536 ≤ 1 := by omega
       simp (disch := omega) only [nmul,nwrap64,nshr64,nadd]
       refine ⟨fun h6 => ?_,fun h6 => ?_⟩
       · have h6:r * r / 2 ^ 15 / 2 ^ 16 ≠ 0 := by
           intro h0
           rw [h0] at h6
           cases h6
         conv => whnf
         refine ⟨⟨k + 1,by omega⟩,EncS.embH rfl ⟨rfl,?_,?_,?_,trivial⟩,?_⟩
         · refine eq_u64 ?_
           rw [hs]
           rfl
         · refine eq_u64 ?_
           rw [hs,nshr64 _ _ (by omega),fracStep_pos h6]
         · refine eq_i64 ?_
           rw [nadd,nwrapi (by omega)]
         · show 3 - (k + 1) < 3 - k
           omega
       · have h6:r * r / 2 ^ 15 / 2 ^ 16 = 0 := bne_f h6
         conv => whnf
         refine ⟨⟨k + 1,by omega⟩,EncS.embH rfl ⟨rfl,?_,?_,?_,trivial⟩,?_⟩
         · refine eq_u64 ?_
           rw [hs]
           rfl
         · refine eq_u64 ?_
           rw [hs,fracStep_neg h6]
         · refine eq_i64 ?_
           rw [nadd,nwrapi (by omega)]
         · show 3 - (k + 1) < 3 - k
           omega
     · have h5 := of_decide_eq_false h5
       have h5:¬ (k:Int) < ((3:Nat):Int) := h5
       have hk3:k = 3 := by omega
       subst hk3
       conv => whnf
       refine Or.inl ?_
       conv => whnf
       simp (disch := omega) only [nmul,nwrap64]
       refine ⟨fun h6 => ?_,fun h6 => ?_⟩
       · have h6 := of_decide_eq_true h6
         conv => whnf
         refine Or.inl ⟨u64_of ?_,rfl⟩
         have h6:((d.total * 8:Nat):Int) ≤ ((fracIter (d.rng / 2 ^ (len d.rng - 16),len d.rng) 3).2:Nat) := h6
         show (0:Int) = ((d.total * 8 - (fracIter (d.rng / 2 ^ (len d.rng - 16),len d.rng) 3).2:Nat):Int)
         omega
       · have h6 := of_decide_eq_false h6
         conv => whnf
         refine Or.inl ⟨u64_of ?_,rfl⟩
         have h6:¬ ((d.total * 8:Nat):Int) ≤ ((fracIter (d.rng / 2 ^ (len d.rng - 16),len d.rng) 3).2:Nat) := h6
         show _ = ((d.total * 8 - (fracIter (d.rng / 2 ^ (len d.rng - 16),len d.rng) 3).2:Nat):Int)
         rw [nsub (by omega),nwrap64 (by omega)]
end Go.Proofs.YtokkphocaloelaaGreatDoor
end
section
namespace Go.Proofs.YtokkphocaloelaaGreatDoor
open Go Go.Vc
set_option maxRecDepth 100000

theorem bitMaskW (w0:World) (H:List Blk) {n:Nat} (h:n < 32):CallsA Tryz.prog w0 104 [.c (.val (.int .u64 n))] H fun r H' => r = u32 (2 ^ n - 1) ∧ H' = H := by
 have hp:2 ^ n ≤ 2 ^ 31 := Nat.pow_le_pow_right (by omega) (by omega)
 have hp0:1 ≤ 2 ^ n := Nat.one_le_two_pow
 refine callsA_of_ev c104_ ?_
 conv => whnf
 refine Or.inl ?_
 conv => whnf
 refine ⟨fun h1 => absurd (ge_t h1) (by omega),fun _ => ?_⟩
 conv => whnf
 refine ⟨by omega,?_⟩
 conv => whnf
 refine Or.inl ⟨u32_of ?_,rfl⟩
 rw [Int.toNat_natCast,nshl32 _ _ (by omega),Nat.one_mul,nwrap32 (by omega),nsub hp0,nwrap32 (by omega)]
theorem boolToIntW (w0:World) (H:List Blk) (b:Bool):CallsA Tryz.prog w0 108 [.c (.val (.bool b))] H fun r H' => r = i64 (bif b then 1 else 0) ∧ H' = H := by
 refine callsA_of_ev c108_ ?_
 conv => whnf
 refine Or.inl ?_
 conv => whnf
 refine ⟨fun h => ?_,fun h => ?_⟩
 · subst h
   conv => whnf
   exact Or.inl ⟨rfl,rfl⟩
 · subst h
   conv => whnf
   exact Or.inl ⟨rfl,rfl⟩
theorem shouldW (w0:World) (e:EncS) (n:Nat) (h:0 < e.nend) (hb:e.buf.length ≠ 0) (hn:e.nend ≤ n):CallsA Tryz.prog w0 109 [.c (.ptr 0 0),.c (.val (.int .u64 n))] e.H fun r H' => r = .o (.c (.val (.bool false))) ∧ H' = e.H := by
 refine callsA_of_ev c109_ ?_
 conv => whnf
 refine ⟨fun _ => ?_,fun h1 => absurd (gt_f h1) (by omega)⟩
 conv => whnf
 refine ⟨fun h1 => absurd (beq_t h1) hb,fun _ => ?_⟩
 conv => whnf
 refine Or.inl ⟨?_,rfl⟩
 have:decide ((e.nend:Int) > (n:Int)) = false := decide_eq_false (by omega)
 rw [this]
 rfl
theorem carryN (w0:World) (e:EncS) (hr:e.rem = -1) (hx:e.ext = 0) {v:Nat} (hv:v < 255):CallsA Tryz.prog w0 107 [.c (.ptr 0 0),.c (.val (.int .i64 v))] e.H fun r H => r = .t [] ∧ H = ({ e with rem := v }:EncS).H := by
 refine callsA_of_ev c107_ ?_
 conv => whnf
 refine Or.inl ?_
 conv => whnf
 refine ⟨fun h1 => ?_,fun h1 => absurd (bne_f h1) (by omega)⟩
 conv => whnf
 refine Or.inl ?_
 conv => whnf
 refine ⟨fun h2 => absurd (of_decide_eq_true h2:(0:Int) ≤ e.rem) (by omega),fun _ => ?_⟩
 conv => whnf
 refine Or.inl ?_
 conv => whnf
 refine ⟨fun h1 => absurd (gt_t h1) (by omega),fun _ => ?_⟩
 conv => whnf
 refine Or.inl ⟨rfl,?_⟩
 rw [nandi (by omega) (by omega),show (255:Nat) = 2 ^ 8 - 1 by rfl,nand_mask,Nat.mod_eq_of_lt (by omega)]
 rfl
theorem carryP (w0:World) (e:EncS) (hr:0 ≤ e.rem) (hr2:e.rem < 256) (hx:e.ext = 0) (hb:e.buf.length ≤ 1048576) {v:Nat} (hv:v < 255):CallsA Tryz.prog w0 107 [.c (.ptr 0 0),.c (.val (.int .i64 v))] e.H fun r H => r = .t [] ∧ H = [({ e with rem := v,buf := e.buf ++ [e.rem] }:EncS).blk 3 2,.dead,byteBlk e.tail,byteBlk (e.buf ++ [e.rem])] := by
 refine callsA_of_ev c107_ ?_
 conv => whnf
 refine Or.inl ?_
 conv => whnf
 refine ⟨fun h1 => ?_,fun h1 => absurd (bne_f h1) (by omega)⟩
 conv => whnf
 refine Or.inl ?_
 conv => whnf
 refine ⟨fun _ => ?_,fun h2 => absurd hr (of_decide_eq_false h2)⟩
 conv => whnf
 refine ⟨⟨⟨rfl,rfl⟩,trivial⟩,?_⟩
 conv => whnf
 have hX:IntKind.u8.wrap (IntKind.i64.wrap (e.rem + ((v:Nat):Int).fdiv (2 ^ min 8 IntKind.i64.bits))) = e.rem := by
   rw [nshri _ _ (by omega),show v / 2 ^ 8 = 0 by omega,IntKind.wrap_i64,IntKind.wrap_u8]
   omega
 refine ⟨rfl,[e.rem],⟨rfl,rfl,congrArg (fun x => [CV.val (.int .u8 x)]) hX.symm⟩,by rw [List.length_append,List.length_singleton]; omega,by rw [List.length_append,List.length_singleton]; omega,?_⟩
 conv => whnf
 refine ⟨trivial,?_⟩
 conv => whnf
 refine ⟨trivial,?_⟩
 conv => whnf
 refine Or.inl ?_
 conv => whnf
 refine ⟨fun h1 => absurd (gt_t h1) (by omega),fun _ => ?_⟩
 conv => whnf
 have hrem:IntKind.i64.wrap (((BitVec.ofInt IntKind.i64.bits (v:Int) &&& BitVec.ofInt IntKind.i64.bits ((255:Nat):Int)).toNat:Nat):Int) = (v:Int) := by
   rw [nandi (by omega) (by omega),show (255:Nat) = 2 ^ 8 - 1 by rfl,nand_mask,Nat.mod_eq_of_lt (by omega)]
 refine Or.inr ⟨[0,1,2,4],.t [],[({ e with rem := v,buf := e.buf ++ [e.rem] }:EncS).blk 3 2,.dead,byteBlk e.tail,byteBlk (e.buf ++ [e.rem])],⟨rfl,⟨congrArg (fun x:Int => some (Blk.cells 134 [.vec 4 (e.buf ++ [e.rem]).length,.vec 2 e.tail.length,.val (.int .u64 e.win),.val (.int .u64 e.nend),.val (.int .u32 e.rng),.val (.int .u32 e.low),.val (.int .i64 x),.val (.int .i64 e.ext),.val (.int .u64 e.total)])) hrem,rfl,Nat.le_of_ble_eq_true rfl,rfl,rfl,rfl,rfl,trivial⟩,rfl⟩,rfl,rfl,rfl⟩
theorem normStop (w0:World) (e:EncS) (h:8388608 < e.rng):CallsA Tryz.prog w0 102 [.c (.ptr 0 0)] e.H fun r H => r = .t [] ∧ H = e.H := by
 refine callsA_of_ev c102_ ?_
 conv => whnf
 refine ⟨Unit,fun _ => ⟨[(0,.o (.c (.ptr 0 0)))],e.H⟩,fun _ => 0,⟨(),EncS.embH rfl ⟨rfl,trivial⟩⟩,fun _ => ?_⟩
 conv => whnf
 refine ⟨fun h1 => absurd (le_t h1) (by omega),fun _ => ?_⟩
 conv => whnf
 exact Or.inl ⟨rfl,rfl⟩
end Go.Proofs.YtokkphocaloelaaGreatDoor
end
section
namespace Go.Proofs.YtokkphocaloelaaGreatDoor
open Go Go.Vc
set_option maxRecDepth 100000
set_option maxHeartbeats 4000000

def E1:EncS := ⟨[],[],0,0,8589934,1666447344,-1,0,33⟩
def E2:EncS := ⟨[],[],1,2,8589934,1666447344,-1,0,35⟩
theorem cumA (w0:World):CallsA Tryz.prog w0 60 [.c (.ptr 0 0),.c (.val (.int .u32 ((194:Nat):Int))),.c (.val (.int .u32 ((195:Nat):Int))),.c (.val (.int .u32 ((250:Nat):Int)))] EncS.init.H fun r H => r = .t [] ∧ H = E1.H := by
 refine callsA_of_ev c60_ ?_
 conv => whnf
 refine Or.inl ?_
 conv => whnf
 refine ⟨fun h => absurd (beq_t h) (by decide),fun _ => ?_⟩
 conv => whnf
 refine ⟨fun h => absurd (ge_t h) (by decide),fun _ => ?_⟩
 conv => whnf
 refine ⟨fun h => absurd (gt_t h) (by decide),fun _ => ?_⟩
 conv => whnf
 refine ⟨by decide,?_⟩
 conv => whnf
 refine Or.inl ?_
 conv => whnf
 refine ⟨fun _ => ?_,fun h => absurd (bne_f h) (by decide)⟩
 conv => whnf
 refine ⟨by first | exact trivial | exact ⟨⟨rfl,rfl⟩,trivial⟩,?_⟩
 conv => whnf
 refine (normStop w0 E1 (by decide)).mono ?_
 rintro _ _ ⟨rfl,rfl⟩
 conv => whnf
 exact Or.inl ⟨rfl,rfl⟩
theorem rawA (w0:World):CallsA Tryz.prog w0 65 [.c (.ptr 0 0),.c (.val (.int .u64 ((2:Nat):Int))),.c (.val (.int .u32 ((1:Nat):Int)))] E1.H fun r H => r = .t [] ∧ H = E2.H := by
 refine callsA_of_ev c65_ ?_
 conv => whnf
 refine Or.inl ?_
 conv => whnf
 refine ⟨fun h => absurd (beq_t h) (by decide),fun _ => ?_⟩
 conv => whnf
 refine Or.inl ?_
 conv => whnf
 refine ⟨fun _ => ?_,fun h => absurd (lt_f h) (by decide)⟩
 conv => whnf
 refine (bitMaskW w0 E1.H (n := 2) (by decide)).mono ?_
 rintro _ _ ⟨rfl,rfl⟩
 conv => whnf
 refine ⟨by decide,?_⟩
 conv => whnf
 refine ⟨by first | exact trivial | exact ⟨⟨rfl,rfl⟩,trivial⟩,?_⟩
 conv => whnf
 refine ⟨Unit,fun _ => ⟨[(0,.o (.c (.ptr 0 0)))],E2.H⟩,fun _ => 0,⟨(),EncS.embH rfl ⟨rfl,trivial⟩⟩,fun _ => ?_⟩
 conv => whnf
 refine ⟨fun h => absurd (ge_t h) (by decide),fun _ => ?_⟩
 conv => whnf
 exact Or.inl ⟨rfl,rfl⟩
theorem uniA (w0:World):CallsA Tryz.prog w0 64 [.c (.ptr 0 0),.c (.val (.int .u32 ((1000:Nat):Int))),.c (.val (.int .u32 ((777:Nat):Int)))] EncS.init.H fun r H => r = .t [] ∧ H = E2.H := by
 refine callsA_of_ev c64_ ?_
 conv => whnf
 refine Or.inl ?_
 conv => whnf
 refine ⟨fun h => absurd (le_t h) (by decide),fun _ => ?_⟩
 conv => whnf
 refine Or.inl ?_
 conv => whnf
 refine ⟨fun h => absurd (ge_t h) (by decide),fun _ => ?_⟩
 conv => whnf
 refine (len32 w0 EncS.init.H (n := 999) (by decide)).mono ?_
 rintro _ _ ⟨rfl,rfl⟩
 conv => whnf
 refine Or.inl ?_
 conv => whnf
 refine ⟨fun h => absurd (le_t h) (by decide),fun _ => ?_⟩
 conv => whnf
 refine ⟨by decide,?_⟩
 conv => whnf
 refine ⟨by decide,?_⟩
 conv => whnf
 refine (cumA w0).mono ?_
 rintro _ _ ⟨rfl,rfl⟩
 conv => whnf
 refine (bitMaskW w0 E1.H (n := 2) (by decide)).mono ?_
 rintro _ _ ⟨rfl,rfl⟩
 conv => whnf
 refine (rawA w0).mono ?_
 rintro _ _ ⟨rfl,rfl⟩
 conv => whnf
 exact Or.inl ⟨rfl,rfl⟩
def E3:EncS := ⟨[],[],1,2,8589934,1666447344,199,0,35⟩
def E4:EncS := ⟨[199],[],1,2,8589934,1666447344,0,0,35⟩
def flushSt:Nat → S
 | 0 => ⟨[(0,.o (.c (.ptr 0 0))),(3,.o (.c (.val (.int .i64 ((9:Nat):Int))))),(5,.o (.c (.val (.int .u32 ((1669332992:Nat):Int)))))],E2.H⟩
 | 1 => ⟨[(0,.o (.c (.ptr 0 0))),(3,.o (.c (.val (.int .i64 ((1:Nat):Int))))),(5,.o (.c (.val (.int .u32 ((0:Nat):Int)))))],E3.H⟩
 | _ => ⟨[(0,.o (.c (.ptr 0 0))),(3,.o (.c (.val (.int .i64 (-7))))),(5,.o (.c (.val (.int .u32 ((0:Nat):Int)))))],[E4.blk 3 2,.dead,byteBlk [],byteBlk [199]]⟩
theorem flushA (w0:World):CallsA Tryz.prog w0 106 [.c (.ptr 0 0)] E2.H fun r H => r = i64 (-7) ∧ H = [E4.blk 3 2,.dead,byteBlk [],byteBlk [199]] := by
 refine callsA_of_ev c106_ ?_
 conv => whnf
 refine (len32 w0 E2.H (n := 8589934) (by decide)).mono ?_
 rintro _ _ ⟨rfl,rfl⟩
 conv => whnf
 refine ⟨by decide,?_⟩
 conv => whnf
 refine Or.inl ?_
 conv => whnf
 refine ⟨fun _ => ?_,fun h => absurd h (by decide)⟩
 conv => whnf
 refine Or.inl ?_
 conv => whnf
 refine ⟨_root_.Fin 3,fun ⟨k,_⟩ => flushSt k,fun k => 3 - k.1,⟨⟨0,by decide⟩,EncS.embH (e := E2) rfl ⟨rfl,rfl,rfl,trivial⟩⟩,fun ⟨k,hk⟩ => ?_⟩
 rcases k with _ | _ | _ | k
 · conv => whnf
   refine ⟨fun _ => ?_,fun h => absurd h (by decide)⟩
   conv => whnf
   refine (carryN w0 E2 rfl rfl (v := 199) (by decide)).mono ?_
   rintro _ _ ⟨rfl,rfl⟩
   conv => whnf
   exact ⟨⟨1,by decide⟩,EncS.embH (e := E3) rfl ⟨rfl,rfl,rfl,trivial⟩,(by show 3 - 1 < 3 - 0; decide)⟩
 · conv => whnf
   refine ⟨fun _ => ?_,fun h => absurd h (by decide)⟩
   conv => whnf
   refine (carryP w0 E3 (by decide) (by decide) rfl (by decide) (v := 0) (by decide)).mono ?_
   rintro _ _ ⟨rfl,rfl⟩
   conv => whnf
   exact ⟨⟨2,by decide⟩,⟨[0,1,2,3],⟨rfl,⟨rfl,rfl,by decide,rfl,rfl,rfl,rfl,trivial⟩,rfl⟩,rfl,rfl,rfl,trivial⟩,(by show 3 - 2 < 3 - 1; decide)⟩
 · conv => whnf
   refine ⟨fun h => absurd h (by decide),fun _ => ?_⟩
   conv => whnf
   exact Or.inl ⟨rfl,rfl⟩
 · omega
def E5:EncS := ⟨[199,0],[],1,2,8589934,1666447344,0,0,35⟩
theorem doneA (w0:World):CallsA Tryz.prog w0 70 [.c (.ptr 0 0)] E2.H fun r H => r = .o (.c (.vec 3 2)) ∧ H = [.dead,.dead,.dead,byteBlk [199,1]] := by
 refine callsA_of_ev c70_ ?_
 conv => whnf
 refine (flushA w0).mono ?_
 rintro _ _ ⟨rfl,rfl⟩
 conv => whnf
 refine Or.inl ?_
 conv => whnf
 refine ⟨fun _ => ?_,fun h => absurd h (by decide)⟩
 conv => whnf
 refine CallsA.lift (H0 := E4.H) [0,3,2] rfl ⟨rfl,rfl,rfl,rfl,rfl,rfl,trivial⟩ rfl (carryP w0 E4 (by decide) (by decide) rfl (by decide) (v := 0) (by decide)) ?_
 rintro _ _ ⟨rfl,rfl⟩
 conv => whnf
 refine Or.inl ?_
 conv => whnf
 refine ⟨fun _ => ?_,fun h => absurd h (by decide)⟩
 conv => whnf
 refine CallsA.lift (H0 := E5.H) [0,4,2] rfl ⟨rfl,rfl,rfl,rfl,rfl,rfl,trivial⟩ rfl (shouldW w0 E5 7 (by decide) (by decide) (by decide)) ?_
 rintro _ _ ⟨rfl,rfl⟩
 conv => whnf
 refine ⟨⟨⟨rfl,rfl⟩,⟨rfl,rfl⟩,trivial⟩,?_⟩
 conv => whnf
 refine (boolToIntW w0 _ false).mono ?_
 rintro _ _ ⟨rfl,rfl⟩
 conv => whnf
 refine ⟨⟨⟨rfl,rfl⟩,⟨rfl,rfl⟩,trivial⟩,?_⟩
 conv => whnf
 refine ⟨by decide,?_⟩
 conv => whnf
 refine ⟨Int,encI .u8,[],0,fun _ => rfl,rfl,?_⟩
 conv => whnf
 refine ⟨by first | exact trivial | exact ⟨⟨rfl,rfl⟩,trivial⟩ | exact ⟨⟨rfl,rfl⟩,⟨rfl,rfl⟩,trivial⟩,?_⟩
 conv => whnf
 refine ⟨rfl,[199,0],⟨rfl,by decide,rfl,rfl⟩,by decide,?_⟩
 conv => whnf
 refine Or.inl ?_
 conv => whnf
 refine ⟨Unit,fun _ => ⟨[(0,.o (.c (.ptr 0 0))),(4,.o (.c (.val (.int .u64 ((7:Nat):Int))))),(5,.o (.c (.vec 5 2))),(56,.o (.c (.vec 2 0))),(57,.o (.c (.val (.int .i64 ((0:Nat):Int))))),(58,.o (.c (.val (.int .i64 ((0:Nat):Int)))))],[E5.blk 4 2,.dead,byteBlk [],.dead,byteBlk [199,0],byteBlk [199,0]]⟩,fun _ => 0,⟨(),[0,1,2,3,4,5],⟨rfl,⟨rfl,rfl,by decide,rfl,rfl,by decide,rfl,rfl,rfl,rfl,trivial⟩,rfl⟩,rfl,rfl,rfl,rfl,rfl,rfl,trivial⟩,fun _ => ?_⟩
 conv => whnf
 refine ⟨fun h => absurd h (by decide),fun _ => ?_⟩
 conv => whnf
 refine Or.inl ?_
 conv => whnf
 refine ⟨fun _ => ?_,fun h => absurd h (by decide)⟩
 conv => whnf
 refine (bitMaskW w0 _ (n := 2) (by decide)).mono ?_
 rintro _ _ ⟨rfl,rfl⟩
 conv => whnf
 refine ⟨⟨⟨rfl,rfl⟩,trivial⟩,?_⟩
 conv => whnf
 refine CallsA.lift (H0 := E5.H) [0,4,2] rfl ⟨rfl,rfl,rfl,rfl,rfl,rfl,trivial⟩ rfl (shouldW w0 E5 7 (by decide) (by decide) (by decide)) ?_
 rintro _ _ ⟨rfl,rfl⟩
 conv => whnf
 refine ⟨(fun h => by cases h),fun _ => ?_⟩
 conv => whnf
 refine ⟨by decide,?_⟩
 conv => whnf
 refine ⟨0,rfl,?_⟩
 conv => whnf
 refine ⟨by decide,?_⟩
 conv => whnf
 refine ⟨0,1,rfl,rfl,?_⟩
 conv => whnf
 exact Or.inr ⟨[0,1,2,5],.o (.c (.vec 3 2)),[.dead,.dead,.dead,byteBlk [199,1]],⟨rfl,⟨Nat.le_of_ble_eq_true rfl,Nat.le_of_ble_eq_true rfl,Nat.le_of_ble_eq_true rfl,rfl,rfl,trivial⟩,rfl⟩,rfl,rfl,rfl⟩
end Go.Proofs.YtokkphocaloelaaGreatDoor
end
section
namespace Go.Proofs.YtokkphocaloelaaGreatDoor
open Go Go.Vc
set_option maxRecDepth 100000
set_option maxHeartbeats 4000000

def oA:OpV := ⟨3,1000,777,0,0,.slice none 0 0,[]⟩
def opsA:Blk := .vec true 131 encOp [] 6 [oA]
def seenA:SeenV := ⟨0,true,8589934,E2.tell,E2.frac,0⟩
def encASt:Nat → S
 | 0 => ⟨[(2,.o (.c (.ptr 1 0))),(3,.o (.c (.ptr 2 0))),(4,.o (.c (.ptr 3 0))),(5,.o (.c (.ptr 4 0))),(10,.o (.c (.vec 0 1))),(11,.o (.c (.val (.int .i64 ((1:Nat):Int))))),(12,.o (.c (.val (.int .i64 ((0:Nat):Int)))))],[opsA,.cells 9 [.val (.string ByteArray.empty)],.cells 89 [.val (.slice none 0 0)],.cells 3 [.val (.int .i64 ((0:Nat):Int))],EncS.init.blk 5 6,byteBlk [],byteBlk []]⟩
 | _ => ⟨[(2,.o (.c (.ptr 1 0))),(3,.o (.c (.ptr 2 0))),(4,.o (.c (.ptr 3 0))),(5,.o (.c (.ptr 4 0))),(10,.o (.c (.vec 0 1))),(11,.o (.c (.val (.int .i64 ((1:Nat):Int))))),(12,.o (.c (.val (.int .i64 ((1:Nat):Int)))))],[opsA,.cells 9 [.val (.string ByteArray.empty)],.cells 89 [.vec 7 1],.cells 3 [.val (.int .i64 ((0:Nat):Int))],E2.blk 5 6,byteBlk [],byteBlk [],.vec true 95 encSeen [] 6 [seenA]]⟩
theorem encodeA (w0:World):CallsA Tryz.prog w0 34 [.c (.vec 0 1)] [opsA] fun r H => ∃ s:SeenV,r = .t [.c (.val (.string (strOf [199,1]))),.c (.vec 1 1),.c (.val (.int .i64 ((0:Nat):Int)))] ∧ H = [opsA,.vec true 95 encSeen [] 6 [s]] := by
 refine callsA_of_evD c34_ ?_
 conv => whnf
 refine CallsA.lift (H0 := [.cells 134 [.val (.slice none 0 0),.val (.slice none 0 0),.val (.int .u64 0),.val (.int .u64 0),.val (.int .u32 0),.val (.int .u32 0),.val (.int .i64 0),.val (.int .i64 0),.val (.int .u64 0)]]) [4] rfl ⟨rfl,rfl,trivial⟩ rfl (encInit w0) ?_
 rintro _ _ ⟨rfl,rfl⟩
 conv => whnf
 refine Or.inl ?_
 conv => whnf
 refine ⟨_root_.Fin 2,fun ⟨k,_⟩ => encASt k,fun k => 2 - k.1,⟨⟨0,by decide⟩,⟨[0,1,2,3,4,5,6],⟨rfl,⟨rfl,rfl,rfl,rfl,rfl,rfl,rfl,rfl,rfl,rfl,rfl,rfl,rfl,rfl,trivial⟩,rfl⟩,rfl,rfl,rfl,rfl,rfl,rfl,rfl,trivial⟩⟩,fun ⟨k,hk⟩ => ?_⟩
 rcases k with _ | _ | k
 · conv => whnf
   refine ⟨fun _ => ?_,fun h => absurd h (by decide)⟩
   conv => whnf
   refine Or.inl ?_
   conv => whnf
   refine ⟨by decide,?_⟩
   conv => whnf
   refine ⟨oA,rfl,?_⟩
   conv => whnf
   refine Or.inl ?_
   conv => whnf
   refine ⟨fun h => absurd h (by decide),fun _ => ?_⟩
   conv => whnf
   refine ⟨fun h => absurd h (by decide),fun _ => ?_⟩
   conv => whnf
   refine ⟨fun h => absurd h (by decide),fun _ => ?_⟩
   conv => whnf
   refine ⟨fun _ => ?_,fun h => absurd h (by decide)⟩
   conv => whnf
   refine CallsA.lift (H0 := EncS.init.H) [4,5,6] rfl ⟨rfl,rfl,rfl,rfl,rfl,rfl,trivial⟩ rfl (uniA w0) ?_
   rintro _ _ ⟨rfl,rfl⟩
   conv => whnf
   refine CallsA.lift (H0 := E2.H) [4,5,6] rfl ⟨rfl,rfl,rfl,rfl,rfl,rfl,trivial⟩ rfl (encFinal w0 E2) ?_
   rintro _ _ ⟨rfl,rfl⟩
   conv => whnf
   refine ⟨⟨⟨rfl,rfl⟩,trivial⟩,?_⟩
   conv => whnf
   refine CallsA.lift (H0 := E2.H) [4,5,6] rfl ⟨rfl,rfl,rfl,rfl,rfl,rfl,trivial⟩ rfl (encTell w0 E2 (by decide) (by decide) (by decide)) ?_
   rintro _ _ ⟨rfl,rfl⟩
   conv => whnf
   refine ⟨⟨⟨rfl,rfl⟩,trivial⟩,?_⟩
   conv => whnf
   refine CallsA.lift (H0 := E2.H) [4,5,6] rfl ⟨rfl,rfl,rfl,rfl,rfl,rfl,trivial⟩ rfl (encTellFrac w0 E2 (by decide) (by decide) (by decide)) ?_
   rintro _ _ ⟨rfl,rfl⟩
   conv => whnf
   refine ⟨⟨⟨rfl,rfl⟩,trivial⟩,?_⟩
   conv => whnf
   refine ⟨⟨⟨rfl,rfl⟩,trivial⟩,?_⟩
   conv => whnf
   refine ⟨by decide,SeenV,encSeen,[],[seenA],fun _ => rfl,⟨rfl,rfl,rfl⟩,by decide,by decide,?_⟩
   conv => whnf
   refine ⟨by first | exact trivial | exact ⟨⟨rfl,rfl⟩,trivial⟩,?_⟩
   conv => whnf
   refine ⟨by first | exact trivial | exact ⟨⟨rfl,rfl⟩,trivial⟩,?_⟩
   conv => whnf
   exact ⟨⟨1,by decide⟩,⟨[0,1,2,3,4,5,6,9],⟨rfl,⟨rfl,rfl,rfl,rfl,rfl,rfl,rfl,rfl,rfl,rfl,rfl,rfl,rfl,rfl,rfl,rfl,trivial⟩,rfl⟩,rfl,rfl,rfl,rfl,rfl,rfl,rfl,trivial⟩,(by show 2 - 1 < 2 - 0; decide)⟩
 · conv => whnf
   refine ⟨fun h => absurd h (by decide),fun _ => ?_⟩
   conv => whnf
   refine CallsA.lift (H0 := E2.H) [4,5,6] rfl ⟨rfl,rfl,rfl,rfl,rfl,rfl,trivial⟩ rfl (doneA w0) ?_
   rintro _ _ ⟨rfl,rfl⟩
   conv => whnf
   refine ⟨⟨⟨rfl,rfl⟩,trivial⟩,?_⟩
   conv => whnf
   refine ⟨trivial,[199,1],⟨rfl,by decide,rfl,rfl⟩,?_⟩
   conv => whnf
   refine ⟨⟨⟨rfl,rfl⟩,trivial⟩,?_⟩
   conv => whnf
   refine ⟨by first | exact trivial | exact ⟨⟨rfl,rfl⟩,trivial⟩,?_⟩
   conv => whnf
   refine ⟨by first | exact trivial | exact ⟨⟨rfl,rfl⟩,trivial⟩,?_⟩
   conv => whnf
   refine Or.inr ⟨[0,7],.t [.c (.val (.string (strOf [199,1]))),.c (.vec 1 1),.c (.val (.int .i64 ((0:Nat):Int)))],[opsA,.vec true 95 encSeen [] 6 [seenA]],⟨rfl,⟨rfl,rfl,rfl,rfl,trivial⟩,rfl⟩,rfl,seenA,rfl,rfl⟩
 · omega
end Go.Proofs.YtokkphocaloelaaGreatDoor
end
section
namespace Go.Proofs.YtokkphocaloelaaGreatDoor
open Go Go.Vc
set_option maxRecDepth 100000
set_option maxHeartbeats 4000000

def locA:Blk := .cells 87 [.val (.int .i64 ((3:Nat):Int)),.val (.int .u32 ((1000:Nat):Int)),.val (.int .u32 ((777:Nat):Int)),.val (.int .u32 ((0:Nat):Int)),.val (.int .i64 ((0:Nat):Int)),.val (.slice none 0 0)]
def opsLSt:Nat → S
 | 0 => ⟨[(3,.o (.c (.val (.slice none 0 0)))),(6,.o (.c (.sli 0 6 0 1 1))),(7,.o (.c (.val (.int .i64 ((1:Nat):Int))))),(8,.o (.c (.val (.int .i64 ((0:Nat):Int)))))],[locA]⟩
 | _ => ⟨[(3,.o (.c (.vec 1 1))),(6,.o (.c (.sli 0 6 0 1 1))),(7,.o (.c (.val (.int .i64 ((1:Nat):Int))))),(8,.o (.c (.val (.int .i64 ((1:Nat):Int)))))],[locA,opsA]⟩
theorem opsL (w0:World):CallsA Tryz.prog w0 33 [.c (.sli 0 6 0 1 1)] [locA] fun r H => r = .o (.c (.vec 1 1)) ∧ H = [locA,opsA] := by
 refine callsA_of_ev c33_ ?_
 conv => whnf
 refine Or.inl ?_
 conv => whnf
 refine ⟨_root_.Fin 2,fun ⟨k,_⟩ => opsLSt k,fun k => 2 - k.1,⟨⟨0,by decide⟩,⟨[0],⟨rfl,⟨rfl,rfl,trivial⟩,rfl⟩,rfl,rfl,rfl,rfl,trivial⟩⟩,fun ⟨k,hk⟩ => ?_⟩
 rcases k with _ | _ | k
 · conv => whnf
   refine ⟨fun _ => ?_,fun h => absurd h (by decide)⟩
   conv => whnf
   refine ⟨by decide,?_⟩
   conv => whnf
   refine ⟨by decide,OpV,encOp,[],[oA],fun _ => rfl,⟨rfl,rfl,rfl⟩,by decide,by decide,?_⟩
   conv => whnf
   exact ⟨⟨1,by decide⟩,⟨[0,3],⟨rfl,⟨rfl,rfl,rfl,rfl,trivial⟩,rfl⟩,rfl,rfl,rfl,rfl,trivial⟩,(by show 2 - 1 < 2 - 0; decide)⟩
 · conv => whnf
   refine ⟨fun h => absurd h (by decide),fun _ => ?_⟩
   conv => whnf
   exact Or.inl ⟨rfl,rfl⟩
 · omega
theorem goodA (w0:World):oA.good w0 := ⟨by decide,by decide,by decide,Or.inr (Or.inr (Or.inr (Or.inl ⟨rfl,by decide⟩)))⟩
theorem readA:∃ s:SeenV,(Dec.init (bytesOf (strOf [199,1]))).seen [oA] = [s] ∧ s.value = ((777:Nat):Int) ∧ s.fine = true := ⟨_,rfl,by kernel_rfl,by kernel_rfl⟩
theorem aliveW (w0:World):CallsA Tryz.prog w0 15 [] [] fun r H => r = .o (.c (.val (.bool true))) ∧ H = [] := by
 refine callsA_of_ev c15_ ?_
 conv => whnf
 refine CallsA.lift (H0 := [locA]) [0] rfl ⟨rfl,rfl,trivial⟩ rfl (opsL w0) ?_
 rintro _ _ ⟨rfl,rfl⟩
 conv => whnf
 refine CallsA.lift (H0 := [opsA]) [1] rfl ⟨rfl,rfl,trivial⟩ rfl (encodeA w0) ?_
 rintro _ _ ⟨sA,rfl,rfl⟩
 conv => whnf
 refine CallsA.lift (H0 := [opsA]) [1] rfl ⟨rfl,rfl,trivial⟩ rfl (decodeW w0 (b := strOf [199,1]) (l := [oA]) (by decide) (by decide) (by decide) ?_) ?_
 · intro o ho
   rw [List.mem_singleton] at ho
   subst ho
   exact ⟨goodA w0,rfl⟩
 rintro _ _ ⟨rfl,rfl⟩
 obtain ⟨s,hs,h1,h2⟩ := readA
 rw [hs]
 obtain ⟨sv,sf,sr,st,sc,sl⟩ := s
 simp only at h1 h2
 subst h1 h2
 clear hs
 conv => whnf
 refine ⟨fun _ => ?_,fun h => absurd h (by decide)⟩
 conv => whnf
 refine ⟨fun _ => ?_,fun h => absurd h (by decide)⟩
 conv => whnf
 refine ⟨fun _ => ?_,fun h => absurd h (by decide)⟩
 conv => whnf
 refine ⟨by decide,?_⟩
 conv => whnf
 refine ⟨_,rfl,?_⟩
 conv => whnf
 refine ⟨fun _ => ?_,fun h => absurd rfl (ieq_f h)⟩
 conv => whnf
 refine ⟨by decide,?_⟩
 conv => whnf
 refine ⟨_,rfl,?_⟩
 conv => whnf
 exact Or.inr ⟨[],.o (.c (.val (.bool true))),[],⟨rfl,trivial,rfl⟩,rfl,rfl,rfl⟩
end Go.Proofs.YtokkphocaloelaaGreatDoor
end

end
section
namespace Go.Proofs.YtokkphocaloelaaGreatDoor
open Go Go.Vc
set_option maxRecDepth 100000
set_option maxHeartbeats 8000000

theorem mem_get {α:Type} {x:α} {l:List α} (h:x ∈ l):∃ i:Nat,l[i]? = some x := List.getElem?_of_mem h
theorem StrOk.good {w0:World} {v:Value} {h:Hd} {xs:List (Pg × Value)} (hv:pgsAt w0 v xs) (h1:StrOk h xs):∀ p ∈ xs.map Prod.fst,p.good := by
 intro p hp
 obtain ⟨x,hx,rfl⟩ := List.mem_map.1 hp
 rcases hv with ⟨_,rfl⟩ | ⟨a,c,_,_,hb⟩
 · cases hx
 · obtain ⟨i,hi⟩ := mem_get hx
   have hf := (hb i x hi).fit
   exact (h1.ok x hx).good hf.1 hf.2.1 hf.2.2.1
theorem Hd.pages_good {h:Hd} (h1:h.text.2 = 1):∀ p ∈ h.pages,p.good := by
 intro p hp
 simp only [Hd.pages,List.mem_cons,List.not_mem_nil,or_false] at hp
 rcases hp with rfl | rfl
 · exact hdPg_good (by have := Hd.text_size h1; omega)
 · refine tgPg_good ?_
   have:tagsS.size = 25 := by unfold tagsS; rw [strOf_siz]; rfl
   omega
end Go.Proofs.YtokkphocaloelaaGreatDoor

end
section
namespace Go.Proofs.YtokkphocaloelaaGreatDoor
open Go Go.Vc
set_option maxRecDepth 100000
set_option maxHeartbeats 8000000

theorem back_of {h:Hd} (h1:h.text.2 = 1) (hr:h.rate < 4294967296) {qs:List Pg} (hq:∀ p ∈ qs,p.good) (hs:(encAll qs).length ≤ 20000) {b:ByteArray} (hb:b = strOf (encAll h.pages) ++ strOf (encAll qs)) {st:PkS} (ho:opR b = some st):Backs b st := by
 obtain ⟨T,hT0⟩:∃ T:List Int,T = [] := ⟨_,rfl⟩
 have hT:pageI T = none := by rw [hT0]; exact pageI_nil
 have hTb:Byt T := by rw [hT0]; exact fun x hx => (List.not_mem_nil hx).elim
 have hs:(encAll qs).length + T.length ≤ 20000 := by rw [hT0]; exact hs
 have hb:b = strOf (encAll h.pages) ++ strOf (encAll qs ++ T) := by rw [hT0,List.append_nil]; exact hb
 have hpg := Hd.pages_good h1
 have htg:(tgPg tagsS).good := hpg _ (List.mem_cons_of_mem _ (List.mem_cons_self ..))
 have hrg:∀ p ∈ tgPg tagsS :: qs,p.good := fun p hp => by
   rcases List.mem_cons.1 hp with rfl | hp
   · exact htg
   · exact hq p hp
 have hXs := Hd.text_size h1
 have hok := Hd.okX h1 hr
 have e1:encAll h.pages ++ (encAll qs ++ T) = encAll (h.pages ++ qs) ++ T := by rw [encAll_add,List.append_assoc]
 have e2:encAll (h.pages ++ qs) ++ T = pgEnc (hdPg h.text.1) ++ (encAll (tgPg tagsS :: qs) ++ T) := List.append_assoc ..
 have hag:∀ p ∈ h.pages ++ qs,p.good := fun p hp => (List.mem_append.1 hp).elim (hpg p) (hq p)
 have hbb:bytesOf b = encAll (h.pages ++ qs) ++ T := by
   rw [hb,bytes_add,bytes_str (encAll_byt _ hpg),bytes_str ((encAll_byt _ hq).append hTb),e1]
 have hR:Byt (encAll (tgPg tagsS :: qs) ++ T) := (encAll_byt _ hrg).append hTb
 obtain ⟨g,o1,o2,o3⟩ := opens_hd (X := h.text.1) (by omega) (fun _ _ => hok.2) hR
 have hog := oggR_enc (h.pages ++ qs) hag hbb hT
 have hln:∀ l:List Pg,(∀ p ∈ l,p.good) → 27 * l.length ≤ (encAll l).length := by
   intro l
   induction l with
   | nil => intro _; exact Nat.le_refl _
   | cons p r ih =>
     intro hl
     have h1 := pgEnc_len (hl p (List.mem_cons_self ..))
     have h2 := ih fun q hq => hl q (List.mem_cons_of_mem _ hq)
     show 27 * (r.length + 1) ≤ (pgEnc p ++ encAll r).length
     rw [List.length_append]
     omega
 have hbs:(bytesOf b).length ≤ 30000 := by
   have hts:(tgPg tagsS).wt ≤ 60 := by decide
   have hhs:(hdPg h.text.1).wt ≤ 400 := by
     show 27 + 1 + (h.text.1.size + 0) ≤ 400
     omega
   have hz := encAll_size h.pages hpg
   have hw:wts h.pages = (hdPg h.text.1).wt + ((tgPg tagsS).wt + 0) := rfl
   rw [hbb,← e1,List.length_append,List.length_append]
   omega
 have hbl := bytesOf_len b
 have hpk:packsP (tgPg tagsS :: qs) = some st := by
   unfold opR at ho
   split at ho
   · cases ho
   · rename_i hn
     have hst:stR b = (h.pages ++ qs,true) := by
       have:(stR b).2 = true := by
         cases hc:(stR b).2 with
         | false => exact absurd (.inl hc) hn
         | true => rfl
       unfold stR at this ⊢
       split at this
       · cases this
       · rename_i hn2
         rw [if_neg hn2,hog]
     rw [hst] at ho
     exact ho
 have hrb:Byt (encAll (tgPg tagsS :: qs)) := encAll_byt _ hrg
 have hbb2:bytesOf b = pgEnc (hdPg h.text.1) ++ encAll (tgPg tagsS :: qs) := by rw [hbb,e2,hT0,List.append_nil]
 rw [hT0,List.append_nil] at o1 o3
 obtain ⟨i1,A,Z,i2,i3,i4,i5⟩ := pks_cut (tgPg tagsS :: qs) none ⟨eS,false,[]⟩ none (mkLi g.hdr 0) (mkHl g.hdr false) st hrg hpk rfl ⟨fun c => Bool.noConfusion c,fun c => absurd rfl c⟩ fun c => Bool.noConfusion c
 have hAl := pkAll_len _ (encAll (tgPg tagsS :: qs)) (Nat.le_refl _) hrb none
 rw [i2] at hAl
 have hlr:(encAll (tgPg tagsS :: qs)).length ≤ (bytesOf b).length := by rw [hbb2,List.length_append]; omega
 refine ⟨by omega,⟨g,encAll (tgPg tagsS :: qs),A,Z,?_,?_,?_,i1,i2,by rw [i3]; rfl,i4⟩,?_,?_⟩
 · rw [hbb2,o1]
 · rw [o2]
   exact hok.1
 · intro g' rest hg'
   rw [hbb2] at hg' ⊢
   rw [o1] at hg'
   cases hg'
   exact o3
 · rw [i3]
   exact i5
 · rw [i3]
   show (A.map pkM).length ≤ _
   rw [List.length_map]
   have:27 * A.length ≤ 256 * (encAll (tgPg tagsS :: qs)).length := hAl
   omega
end Go.Proofs.YtokkphocaloelaaGreatDoor

end
section
namespace Go.Proofs.YtokkphocaloelaaGreatDoor
open Go Go.Vc
set_option maxRecDepth 100000
set_option maxHeartbeats 8000000

theorem back_siz {h:Hd} (h1:h.text.2 = 1) {qs:List Pg} (hq:∀ p ∈ qs,p.good) (hs:(encAll qs).length ≤ 20000):(strOf (encAll h.pages)).size + (strOf (encAll qs)).size ≤ 30000 := by
 have hpg := Hd.pages_good h1
 have hXs := Hd.text_size h1
 have hts:(tgPg tagsS).wt ≤ 60 := by decide
 have hhs:(hdPg h.text.1).wt ≤ 400 := by
   show 27 + 1 + (h.text.1.size + 0) ≤ 400
   omega
 have hz := encAll_size h.pages hpg
 have hw:wts h.pages = (hdPg h.text.1).wt + ((tgPg tagsS).wt + 0) := rfl
 have e1 := bytesOf_len (strOf (encAll h.pages))
 have e2 := bytesOf_len (strOf (encAll qs))
 rw [bytes_str (encAll_byt _ hpg)] at e1
 rw [bytes_str (encAll_byt _ hq)] at e2
 omega
theorem lBackW {w0:World} {t:TypeId} {v:Nat → Value} (he:Errs w0 t v) (hp:pows w0) (h:Hd) (hr:h.rate < 4294967296) (hi:∀ x ∈ [h.ver,h.ch,h.map,h.skip,h.gain,h.str,h.cou],-9223372036854775808 ≤ x ∧ x < 9223372036854775808)
   {ma:Option Addr} {mn mc:Nat} {vv:Value} {xs:List (Pg × Value)} (hv:pgsAt w0 vv xs) (hw:wtx xs ≤ 1073741824) :
   CallsA Tryz.prog w0 3 [.a (h.cells (.slice ma mn mc)),.c (.val vv)] [] fun r H => r = .o (.c (.val (.bool true))) ∧ H = [] := by
 refine callsA_of_ev c3_ ?_
 conv => whnf
 refine Or.inl ?_
 conv => whnf
 refine cL0 (zz7W w0 h) ?_
 rintro _ _ ⟨⟨b1,rfl,hm⟩,rfl⟩
 cases b1 with
 | false =>
   conv => whnf
   refine ⟨fun _ => ?_,fun g => absurd g (by decide)⟩
   conv => whnf
   exact Or.inr ⟨[],.o (.c (.val (.bool true))),[],⟨rfl,trivial,rfl⟩,rfl,rfl,rfl⟩
 | true =>
   have hm := hm rfl
   conv => whnf
   refine ⟨fun g => absurd g (by decide),fun _ => ?_⟩
   conv => whnf
   refine cL0 (zz8W w0 hv) ?_
   rintro _ _ ⟨⟨b2,rfl⟩,rfl⟩
   cases b2 with
   | false =>
     conv => whnf
     refine ⟨fun _ => ?_,fun g => zT g⟩
     conv => whnf
     exact Or.inr ⟨[],.o (.c (.val (.bool true))),[],⟨rfl,trivial,rfl⟩,rfl,rfl,rfl⟩
   | true =>
     conv => whnf
     refine ⟨fun g => zF g,fun _ => ?_⟩
     conv => whnf
     refine cL0 (lStreamW w0 h hr hi hm hv hw) ?_
     rintro _ _ (⟨hok,rfl,rfl⟩ | ⟨⟨sa,sb,rfl⟩,rfl⟩)
     · obtain ⟨ps,hps⟩:∃ ps,ps = xs.map Prod.fst := ⟨_,rfl⟩
       have hgd:∀ p ∈ ps,p.good := by rw [hps]; exact hok.good hv
       have hsz:(encAll ps).length ≤ 20000 := by rw [hps]; exact hok.siz
       rw [← hps]
       have hbs := back_siz hok.hd hgd hsz
       have hbz:(strOf (encAll h.pages)).size + (strOf (encAll ps)).size ≤ 9223372036854775807 := by omega
       have hop := oggPacketsW w0 (b := strOf (encAll h.pages) ++ strOf (encAll ps)) (by rw [ByteArray.size_append]; omega)
       obtain ⟨F,hF⟩:∃ F,F = opR (strOf (encAll h.pages) ++ strOf (encAll ps)) := ⟨_,rfl⟩
       rw [← hF] at hop
       conv => whnf
       refine Or.inl ?_
       conv => whnf
       refine ⟨fun g => zF g,fun _ => ?_⟩
       conv => whnf
       refine ⟨hbz,?_⟩
       conv => whnf
       refine CallsA.liftE (H0 := []) [] rfl trivial rfl hop ?_
       intro r H hrH
       cases F with
       | none =>
         obtain ⟨k,rfl,rfl⟩ := hrH
         refine ⟨.t [.c (.val (.slice none 0 0)),.c (.val (.slice none 0 0)),.c (.val (.int .i64 ((k:Nat):Int))),.c (.val (.int .i64 ((2:Nat):Int)))],[.cells 25 (h.cells (.slice ma mn mc))],rfl,⟨rfl,trivial⟩,?_⟩
         conv => whnf
         refine Or.inl ?_
         conv => whnf
         refine ⟨fun _ => ?_,fun g => zT g⟩
         conv => whnf
         exact Or.inr ⟨[],.o (.c (.val (.bool true))),[],⟨rfl,trivial,rfl⟩,rfl,rfl,rfl⟩
       | some st =>
         obtain ⟨rfl,rfl⟩ := hrH
         have hB := back_of hok.hd hr hgd hsz rfl hF.symm
         obtain ⟨g0,L0,A,Z,o1,o2,o3,o4,o5,o6,o7⟩ := hB.opens
         have hlen := hB.len
         have hip := iOggPacketsQ he hB.siz o3 o1 o2 o4 o5 (by rw [o6,List.length_map] at hlen; omega)
         have hcode:(if parN Z = 0 then 0 else 1:Nat) = if st.go = true then 1 else 0 := by
           by_cases c:st.go = true
           · rw [if_pos c,if_neg (o7.1 c)]
           · rw [if_neg c,if_pos (Classical.byContradiction fun c2 => c (o7.2 c2))]
         rw [← o6,hcode] at hip
         have hgr := hB.gran
         obtain ⟨code,hcd⟩:∃ code:Nat,code = if st.go = true then 1 else 0 := ⟨_,rfl⟩
         rw [← hcd] at hip
         clear hB o1 o2 o3 o4 o5 o6 o7 hcode
         obtain ⟨l,hl⟩:∃ l,l = st.l := ⟨_,rfl⟩
         rw [← hl] at hip hgr hlen
         show ∃ r1 H1,_
         rw [← hcd,← hl]
         clear hcd hl hF
         cases l with
         | nil =>
           refine ⟨.t [.c (.val (.slice none 0 0)),.c (.val (.slice none 0 0)),.c (.val (.int .i64 ((code:Nat):Int))),.c (.val (.int .i64 ((1:Nat):Int)))],[.cells 25 (h.cells (.slice ma mn mc))],rfl,⟨rfl,trivial⟩,?_⟩
           conv => whnf
           refine Or.inl ?_
           conv => whnf
           refine ⟨fun g => zF g,fun _ => ?_⟩
           conv => whnf
           refine ⟨hbz,?_⟩
           conv => whnf
           refine CallsA.liftE (H0 := []) [] rfl trivial rfl hip ?_
           rintro _ _ ⟨rfl,rfl⟩
           refine ⟨.t [.c (.val (.slice none 0 0)),.c (.val (.slice none 0 0)),.c (.val (.int .i64 ((code:Nat):Int)))],[.cells 25 (h.cells (.slice ma mn mc))],rfl,⟨rfl,trivial⟩,?_⟩
           conv => whnf
           refine ⟨fun _ => ?_,fun g => absurd g (by rw [beq_self_eq_true]; decide)⟩
           conv => whnf
           refine CallsA.liftE (H0 := []) [] rfl trivial rfl (sameN w0) ?_
           rintro _ _ ⟨rfl,rfl⟩
           refine ⟨.o (.c (.val (.bool true))),[.cells 25 (h.cells (.slice ma mn mc))],rfl,⟨rfl,trivial⟩,?_⟩
           conv => whnf
           refine ⟨fun _ => ?_,fun g => zT g⟩
           conv => whnf
           refine CallsA.liftE (H0 := []) [] rfl trivial rfl (numsUN w0) ?_
           rintro _ _ ⟨rfl,rfl⟩
           refine ⟨.o (.c (.val (.string (strOf (numsUL []))))),[.cells 25 (h.cells (.slice ma mn mc))],rfl,⟨rfl,trivial⟩,?_⟩
           conv => whnf
           refine CallsA.liftE (H0 := []) [] rfl trivial rfl (numsUN w0) ?_
           rintro _ _ ⟨rfl,rfl⟩
           refine ⟨.o (.c (.val (.string (strOf (numsUL []))))),[.cells 25 (h.cells (.slice ma mn mc))],rfl,⟨rfl,trivial⟩,?_⟩
           conv => whnf
           refine ⟨fun _ => ?_,fun g => absurd (show ((strOf (numsUL [])).toList == (strOf (numsUL [])).toList) = false from g) (by rw [beq_self_eq_true]; decide)⟩
           conv => whnf
           refine cL0 (aliveW w0) ?_
           rintro _ _ ⟨rfl,rfl⟩
           conv => whnf
           exact Or.inr ⟨[],.o (.c (.val (.bool true))),[],⟨rfl,trivial,rfl⟩,rfl,rfl,rfl⟩
         | cons y0 yr =>
           have hz1:((y0 :: yr).map Prod.fst).length = (y0 :: yr).length := List.length_map ..
           have hg1:((y0 :: yr).map Prod.snd).length = (y0 :: yr).length := List.length_map ..
           have hsl := sameVV w0 (l := (y0 :: yr).map Prod.fst) (by rw [hz1]; omega)
           have hnu := numsUW w0 hp (l := (y0 :: yr).map Prod.snd) (by rw [hg1]; omega) (by
             intro z hz
             obtain ⟨y,hy,rfl⟩ := List.mem_map.1 hz
             exact hgr y hy)
           rw [hz1] at hsl
           rw [hg1] at hnu
           refine ⟨.t [.c (.vec 1 (y0 :: yr).length),.c (.vec 2 (y0 :: yr).length),.c (.val (.int .i64 ((code:Nat):Int))),.c (.val (.int .i64 ((1:Nat):Int)))],[.cells 25 (h.cells (.slice ma mn mc)),strB ((y0 :: yr).map Prod.fst),grB ((y0 :: yr).map Prod.snd)],rfl,⟨rfl,rfl,rfl,trivial⟩,?_⟩
           conv => whnf
           refine Or.inl ?_
           conv => whnf
           refine ⟨fun g => zF g,fun _ => ?_⟩
           conv => whnf
           refine ⟨hbz,?_⟩
           conv => whnf
           refine CallsA.liftE (H0 := []) [] rfl trivial rfl hip ?_
           rintro _ _ ⟨rfl,rfl⟩
           refine ⟨.t [.c (.vec 3 (y0 :: yr).length),.c (.vec 4 (y0 :: yr).length),.c (.val (.int .i64 ((code:Nat):Int)))],[.cells 25 (h.cells (.slice ma mn mc)),strB ((y0 :: yr).map Prod.fst),grB ((y0 :: yr).map Prod.snd),strB ((y0 :: yr).map Prod.fst),grB ((y0 :: yr).map Prod.snd)],rfl,⟨rfl,rfl,rfl,rfl,rfl,trivial⟩,?_⟩
           conv => whnf
           refine ⟨fun _ => ?_,fun g => absurd g (by rw [beq_self_eq_true]; decide)⟩
           conv => whnf
           refine CallsA.liftE (H0 := [strB ((y0 :: yr).map Prod.fst),strB ((y0 :: yr).map Prod.fst)]) [3,1] rfl ⟨rfl,rfl,rfl,rfl,trivial⟩ rfl hsl ?_
           rintro _ _ ⟨rfl,rfl⟩
           refine ⟨.o (.c (.val (.bool true))),[.cells 25 (h.cells (.slice ma mn mc)),strB ((y0 :: yr).map Prod.fst),grB ((y0 :: yr).map Prod.snd),strB ((y0 :: yr).map Prod.fst),grB ((y0 :: yr).map Prod.snd)],rfl,⟨rfl,rfl,rfl,rfl,rfl,trivial⟩,?_⟩
           conv => whnf
           refine ⟨fun _ => ?_,fun g => zT g⟩
           conv => whnf
           refine CallsA.liftE (H0 := [grB ((y0 :: yr).map Prod.snd)]) [4] rfl ⟨rfl,rfl,trivial⟩ rfl hnu ?_
           rintro _ _ ⟨rfl,rfl⟩
           refine ⟨.o (.c (.val (.string (strOf (numsUL ((y0 :: yr).map Prod.snd)))))),[.cells 25 (h.cells (.slice ma mn mc)),strB ((y0 :: yr).map Prod.fst),grB ((y0 :: yr).map Prod.snd),strB ((y0 :: yr).map Prod.fst),grB ((y0 :: yr).map Prod.snd)],rfl,⟨rfl,rfl,rfl,rfl,rfl,trivial⟩,?_⟩
           conv => whnf
           refine CallsA.liftE (H0 := [grB ((y0 :: yr).map Prod.snd)]) [2] rfl ⟨rfl,rfl,trivial⟩ rfl hnu ?_
           rintro _ _ ⟨rfl,rfl⟩
           refine ⟨.o (.c (.val (.string (strOf (numsUL ((y0 :: yr).map Prod.snd)))))),[.cells 25 (h.cells (.slice ma mn mc)),strB ((y0 :: yr).map Prod.fst),grB ((y0 :: yr).map Prod.snd),strB ((y0 :: yr).map Prod.fst),grB ((y0 :: yr).map Prod.snd)],rfl,⟨rfl,rfl,rfl,rfl,rfl,trivial⟩,?_⟩
           conv => whnf
           refine ⟨fun _ => ?_,fun g => absurd (show ((strOf (numsUL ((y0 :: yr).map Prod.snd))).toList == (strOf (numsUL ((y0 :: yr).map Prod.snd))).toList) = false from g) (by rw [beq_self_eq_true]; decide)⟩
           conv => whnf
           refine cL0 (aliveW w0) ?_
           rintro _ _ ⟨rfl,rfl⟩
           conv => whnf
           exact Or.inr ⟨[],.o (.c (.val (.bool true))),[],⟨rfl,trivial,rfl⟩,rfl,rfl,rfl⟩
     · conv => whnf
       refine Or.inl ?_
       conv => whnf
       refine ⟨fun _ => ?_,fun g => zT g⟩
       conv => whnf
       exact Or.inr ⟨[],.o (.c (.val (.bool true))),[],⟨rfl,trivial,rfl⟩,rfl,rfl,rfl⟩
end Go.Proofs.YtokkphocaloelaaGreatDoor

end
