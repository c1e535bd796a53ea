/- Joined: VmA. -/
import Derived.OrdersHeld
import Derived.Below
import Derived.WalkKit
import Derived.Maps.AppendAt
import Derived.ScopeJumps
import Derived.Lib.ConvBytes
import Derived.Recover
import Derived.Test.YtbpogapddpacoaaGreatDoorProg
import Derived.KernelRfl
import Derived.Laws.BitsLemmas
import Derived.Laws.Bits64
import GoSem.Core.Float
import Derived.Laws.Externs
import Derived.Test.YtbpogapddpacoaaGreatDoorRows
import Derived.Stop.LaidErr
import Derived.LaidMore
import Derived.Stop.Joined
import Derived.OpenShut
import Derived.ChangeSlices
import Derived.LaidEql
import Derived.Deep.Slices
section
section
namespace Go.Vc
section
variable {P:Program} {ops:Array Oper} {Q:Exit→Act→World→Prop} {md:Region.Mode}
def Closed (md:Region.Mode) (ops:Array Oper) (listed:Array Bool):Prop :=
 ∀ k o,ops[k]? = some o→listed.getD k false=true → ∀ e∈o.after,Region.binds md e=true→listed.getD e.on false=true
theorem Closed.init (n:Nat):Closed md ops (Array.replicate n false):=by
 intro k o _ h
 exfalso
 rcases Nat.lt_or_ge k n with hk | hk
 ·simp [hk] at h
 simp [Nat.not_lt.2 hk] at h
theorem Closed.set {listed:Array Bool} {j:Nat} (h:Closed md ops listed) (hj:j∈Region.ready md ops listed):Closed md ops (listed.setIfInBounds j true):=by
 intro k o hk hl e he hb
 obtain ⟨_,oj,hoj,hall⟩:=mem_ready.1 hj
 by_cases hjk:j=k
 ·subst hjk
  rw [hoj] at hk
  injection hk with hk
  subst hk
  exact getD_set_true (hall e he hb)
 rw [getD_set_ne false hjk] at hl
 exact getD_set_true (h k o hk hl e he hb)
def waitsN (md:Region.Mode) (ops:Array Oper):Nat→Nat→Nat→Bool
 | 0,_,_=>false
 | n+1,j,i=>match ops[j]? with
  | some o=>o.after.any fun e=>Region.binds md e && (e.on == i || waitsN md ops n e.on i)
  | none=>false
theorem waitsN_listed:∀ (n j i:Nat) (listed:Array Bool),Closed md ops listed→listed.getD j false=true→waitsN md ops n j i=true→listed.getD i false=true
 | 0,_,_,_,_,_,h=>by simp [waitsN] at h
 | n+1,j,i,listed,hc,hj,h=>by
  simp only [waitsN] at h
  cases ho:ops[j]? with
  | none=>simp [ho] at h
  | some o =>
   simp only [ho,Array.any_eq_true'] at h
   obtain ⟨e,he,h2⟩:=h
   simp only [Bool.and_eq_true,Bool.or_eq_true,beq_iff_eq] at h2
   obtain ⟨hb,h3⟩:=h2
   have hl:=hc j o ho hj e he hb
   rcases h3 with h3 | h3
   ·rw [← h3]; exact hl
   exact waitsN_listed n e.on i listed hc hl h3
theorem waitsN_ready {n j i:Nat} {listed:Array Bool} (hc:Closed md ops listed) (hj:j∈Region.ready md ops listed) (hi:listed.getD i true=false):waitsN md ops n j i=false:=by
 cases hw:waitsN md ops n j i with
 | false=>rfl
 | true =>
  exfalso
  cases n with
  | zero=>simp [waitsN] at hw
  | succ n =>
   obtain ⟨_,oj,hoj,hall⟩:=mem_ready.1 hj
   simp only [waitsN,hoj,Array.any_eq_true'] at hw
   obtain ⟨e,he,h2⟩:=hw
   simp only [Bool.and_eq_true,Bool.or_eq_true,beq_iff_eq] at h2
   obtain ⟨hb,h3⟩:=h2
   have hl:=hall e he hb
   have hl2:listed.getD i false=true:=by
    rcases h3 with h3 | h3
    ·rw [← h3]; exact hl
    exact waitsN_listed n e.on i listed hc hl h3
   rcases Nat.lt_or_ge i listed.size with h' | h'
   ·simp [h'] at hi hl2; rw [hi] at hl2; cases hl2
   simp [Array.getElem?_eq_none h'] at hl2
def owed (md:Region.Mode) (ops:Array Oper) (j:Nat) (E:List (Nat × (World→Prop))):List (Nat × (World→Prop)) :=
 E.filter fun p => !waitsN md ops ops.size j p.1
def wpAnyE (P:Program) (md:Region.Mode) (ops:Array Oper) (Q:Exit→Act→World→Prop):Nat→Array Bool→List (Nat × (World→Prop))→Act→World→Prop
 | 0,listed,_,a,w=>Region.ready md ops listed=[]∧Q .normal a w
 | fuel+1,listed,E,a,w =>
  (Region.ready md ops listed=[]→Q .normal a w) ∧
  ∀ j∈Region.ready md ops listed,wpOp P ops Q j (fun a' w'=>(∀ p∈owed md ops j E,p.2 w')∧wpAnyE P md ops Q fuel (listed.setIfInBounds j true) (owed md ops j E) a' w') a w
theorem wpAny_of_E:∀ (fuel:Nat) (listed:Array Bool) (E:List (Nat × (World→Prop))) (a:Act) (w:World),wpAnyE P md ops Q fuel listed E a w→wpAny P md ops Q fuel listed a w
 | 0,_,_,_,_,h=>h
 | fuel+1,_,_,_,_,h=>⟨h.1,fun i hi=>wpOp_mono (fun a' w' h'=>wpAny_of_E fuel _ _ a' w' h'.2) (h.2 i hi)⟩
theorem wpAnyE_sub:∀ (fuel:Nat) (listed:Array Bool) (E E':List (Nat × (World→Prop))) (a:Act) (w:World),(∀ p∈E',p∈E) →
 wpAnyE P md ops Q fuel listed E a w→wpAnyE P md ops Q fuel listed E' a w
 | 0,_,_,_,_,_,_,h=>h
 | fuel+1,listed,E,E',a,w,hs,h=>by
  have hs':∀ j,∀ p∈owed md ops j E',p∈owed md ops j E:=fun j p hp=>by
   unfold owed at *
   rw [List.mem_filter] at *
   exact ⟨hs p hp.1,hp.2⟩
  exact ⟨h.1,fun j hj=>wpOp_mono (fun a' w' h'=>⟨fun p hp=>h'.1 p (hs' j p hp),wpAnyE_sub fuel _ _ _ _ _ (hs' j) h'.2⟩) (h.2 j hj)⟩
theorem wpAnyE_first {S:World→Prop} {i:Nat} {oi:Oper} {v:Value} (hi:ops[i]? = some oi) (hsel:∀ (j:Nat) (o:Oper) cs b,ops[j]? = some o→o.op ≠ .select cs b)
 (hQ:∀ c a w,Q (.panic c) (a.put oi.dst v) w→Q (.panic c) a w) :
 ∀ (fuel:Nat) (listed:Array Bool) (E:List (Nat × (World→Prop))) (a:Act) (w:World),Closed md ops listed →
  (∀ j oj,ops[j]? = some oj→j≠i→listed.getD j true=false→(∀ e∈oj.after,Region.binds md e=true→e.on≠i)→oi.apart ops oj=true) →
  i∈Region.ready md ops listed→YieldsIf P ops S oi v a→S w→(∀ p∈E,p.2 w) →
  wpAnyE P md ops Q fuel (listed.setIfInBounds i true) ((i,S)::E) (a.put oi.dst v) w→wpAnyE P md ops Q (fuel+1) listed E a w:=by
 intro fuel
 have hown:∀ (E:List (Nat × (World→Prop))) (w:World),(∀ p∈E,p.2 w) → ∀ j,∀ p∈owed md ops j E,p.2 w:=fun E w h j p hp=>h p (List.mem_filter.1 hp).1
 have hsub:∀ (E:List (Nat × (World→Prop))) (j:Nat),∀ p∈owed md ops j E,p∈(i,S)::E:=fun E j p hp=>List.mem_cons_of_mem _ (List.mem_filter.1 hp).1
 induction fuel with
 | zero =>
  intro listed E a w hcl _ hr hy hS hE H
  refine ⟨fun h=>(by rw [h] at hr; cases hr),fun j hj => ?_⟩
  by_cases hji:j=i
  ·subst hji; exact hy.wpOp hi hS ⟨hown E w hE _,H⟩
  have:=ready_mono hj hji
  rw [H.1] at this
  cases this
 | succ fuel ih =>
  intro listed E a w hcl hfree hr hy hS hE H
  refine ⟨fun h=>(by rw [h] at hr; cases hr),fun j hj => ?_⟩
  by_cases hji:j=i
  ·subst hji
   exact hy.wpOp hi hS ⟨hown E w hE _,wpAnyE_sub _ _ _ _ _ _ (hsub E _) H⟩
  have h1:=H.2 j (ready_mono hj hji)
  obtain ⟨hjun,oj,hoj,hall⟩:=mem_ready.1 hj
  have hiun:=(mem_ready.1 hr).1
  have hnot:∀ e∈oj.after,Region.binds md e=true→e.on≠i:=fun e he hb heq=>by
   have h1:=hall e he hb
   rw [heq] at h1
   rcases Nat.lt_or_ge i listed.size with h' | h'
   ·simp [h'] at hiun h1; rw [hiun] at h1; cases h1
   simp [Array.getElem?_eq_none h'] at h1
  have h2:=wpOp_putIf hoj (hfree j oj hoj hji hjun hnot) (fun cs b=>hsel i oi cs b hi) (fun cs b=>hsel j oj cs b hoj) hQ hy h1
  have hfree':∀ k ok,ops[k]? = some ok→k≠i→(listed.setIfInBounds j true).getD k true=false →
   (∀ e∈ok.after,Region.binds md e=true→e.on≠i)→oi.apart ops ok=true:=fun k ok hk hki hun hno=>by
   refine hfree k ok hk hki ?_ hno
   by_cases hjk:j=k
   ·subst hjk; exact hjun
   rw [getD_set_ne true hjk] at hun; exact hun
  have hnw:waitsN md ops ops.size j i=false:=waitsN_ready hcl hj hiun
  have how:owed md ops j ((i,S)::E)=(i,S)::owed md ops j E:=by simp [owed,hnw]
  refine wpOp_mono (fun a' w' h3 => ?_) h2
  obtain ⟨h3y,h3E,h3H⟩:=h3
  rw [how] at h3E h3H
  have hS':S w':=h3E (i,S) (List.mem_cons_self ..)
  have hE':∀ p∈owed md ops j E,p.2 w':=fun p hp=>h3E p (List.mem_cons_of_mem _ hp)
  refine ⟨hE',ih _ _ a' w' (hcl.set hj) hfree' (ready_mono hr (Ne.symm hji)) h3y hS' hE' ?_⟩
  rw [Array.setIfInBounds_comm _ _ hji]
  exact h3H
theorem wpAnyE_take {S:World→Prop} {i:Nat} {oi:Oper} {v:Value} {fuel:Nat} {listed:Array Bool} {E:List (Nat × (World→Prop))} {a:Act} {w:World} (hi:ops[i]? = some oi)
 (hs:Region.noSelect ops=true) (hc:Closed md ops listed) (hf:Region.free md ops listed i=true) (hr:(Region.ready md ops listed).contains i=true)
 (hQ:∀ c a w,Q (.panic c) (a.put oi.dst v) w→Q (.panic c) a w) (hy:YieldsIf P ops S oi v a) (hS:S w) (hE:∀ p∈E,p.2 w)
 (h:wpAnyE P md ops Q fuel (listed.setIfInBounds i true) ((i,S)::E) (a.put oi.dst v) w):wpAnyE P md ops Q (fuel+1) listed E a w :=
 wpAnyE_first hi (Region.noSelect_spec hs) hQ fuel listed E a w hc (Region.free_spec hi hf) (by simpa using hr) hy hS hE h
theorem wpAnyE_one {j:Nat} {fuel:Nat} {listed:Array Bool} {E:List (Nat × (World→Prop))} {a:Act} {w:World} (hr:Region.ready md ops listed=[j])
 (h:wpOp P ops Q j (fun a' w'=>(∀ p∈owed md ops j E,p.2 w')∧wpAnyE P md ops Q fuel (listed.setIfInBounds j true) (owed md ops j E) a' w') a w):wpAnyE P md ops Q (fuel+1) listed E a w :=
 ⟨fun h0=>absurd (hr.symm.trans h0) (by simp),fun i hi=>by rw [hr] at hi; rw [List.mem_singleton] at hi; subst hi; exact h⟩
theorem wpAnyE_done {listed:Array Bool} {E:List (Nat × (World→Prop))} {a:Act} {w:World} (hr:Region.ready md ops listed=[]) (h:Q .normal a w) :
 ∀ fuel,wpAnyE P md ops Q fuel listed E a w
 | 0=>⟨hr,h⟩
 | _+1=>⟨fun _=>h,by rw [hr]; simp⟩
theorem wp_region_E {id:Nat} {a:Act} {w:World} (hm:P.follows .mixedOrders=true)
 (h:wpAnyE P .any ops Q ops.size (Array.replicate ops.size false) [] a { w with drawn:=w.drawn+1 }):(Code.region id ops true).wp P Q a w :=
 wp_region_any hm (wpAny_of_E _ _ _ _ _ h)
end
end Go.Vc
end
section
namespace Go.Vc
open Go.RowKit (Below)
inductive CV where
 | val (x:Value)
 | ptr (b o:Nat)
 | row (b wd i j:Nat)
 | sli (b wd o n c:Nat)
 | vec (b n:Nat)
 | clo (g:FuncId) (caps:List (Nat × Nat))
 | ifc (t:TypeId) (b o:Nat)
 | kb (b:Bool)
 | any
 | bad
 | mem (b j n:Nat)
 | mrow (b j wd i o:Nat)
 | tl (b wd o n p:Nat)
 | bnd (name:String) (t:TypeId) (b o:Nat)
 | bnf (g:FuncId) (b o:Nat)
inductive A1 where
 | c (x:CV)
 | a (xs:List CV)
inductive AV where
 | o (x:A1)
 | t (xs:List A1)
def renC (σ:List Nat):List (Nat × Nat)→Option (List (Nat × Nat))
 | []=>some []
 | (b,o)::r=>match σ[b]?,renC σ r with
  | some i,some l=>some ((i,o)::l)
  | _,_=>none
def CV.ren (σ:List Nat):CV→CV
 | .val x => .val x
 | .ptr b o=>match σ[b]? with | some i => .ptr i o | none => .bad
 | .row b wd i j=>match σ[b]? with | some k => .row k wd i j | none => .bad
 | .sli b wd o n c=>match σ[b]? with | some k => .sli k wd o n c | none => .bad
 | .vec b n=>match σ[b]? with | some k => .vec k n | none => .bad
 | .clo g caps=>match renC σ caps with | some l => .clo g l | none => .bad
 | .ifc t b o=>match σ[b]? with | some k => .ifc t k o | none => .bad
 | .kb b => .kb b
 | .any => .any
 | .bad => .bad
 | .mem b j n=>match σ[b]? with | some k => .mem k j n | none => .bad
 | .mrow b j wd i o=>match σ[b]? with | some k => .mrow k j wd i o | none => .bad
 | .tl b wd o n p=>match σ[b]? with | some k => .tl k wd o n p | none => .bad
 | .bnd name t b o=>match σ[b]? with | some k => .bnd name t k o | none => .bad
 | .bnf g b o=>match σ[b]? with | some k => .bnf g k o | none => .bad
def CV.norm:CV→CV
 | .kb b => .val (.bool b)
 | x=>x
def A1.norm:A1→A1
 | .c x => .c x.norm
 | .a xs => .a xs
def A1.ren (σ:List Nat):A1→A1
 | .c x => .c (x.ren σ)
 | .a xs => .a (xs.map (CV.ren σ))
def AV.ren (σ:List Nat):AV→AV
 | .o x => .o (x.ren σ)
 | .t xs => .t (xs.map (A1.ren σ))
structure Enc (α:Type) where
 f:List Nat → α → List CV
 nat:∀ (σ bs bs':List Nat) (x:α),bs.length=bs'.length→(∀ k,k<bs.length → σ[bs.getD k 0]? = some (bs'.getD k 0))→(f bs x).map (CV.ren σ)=f bs' x
def encI (k:IntKind):Enc Int:=⟨fun _ x=>[.val (.int k x)],fun _ _ _ _ _ _=>rfl⟩
def bytesOf (b:ByteArray):List Int:=b.data.toList.map fun x=>(x.toNat:Int)
def strOf (l:List Int):ByteArray:=l.foldl (fun r n=>r.push (UInt8.ofNat n.toNat)) ByteArray.empty
inductive Blk:Type 1 where
 | dead
 | cells (T:TypeId) (cs:List CV)
 | vec {α:Type} (wr:Bool) (T:TypeId) (e:Enc α) (bs:List Nat) (wd:Nat) (xs:List α)
 | fam {α:Type} (T:TypeId) (e:Enc α) (wd:Nat) (xss:List (List α))
def renB (σ:List Nat):List Nat→Option (List Nat)
 | []=>some []
 | b::r=>match σ[b]?,renB σ r with
  | some i,some l=>some (i::l)
  | _,_=>none
def Blk.ren (σ:List Nat):Blk→Blk
 | .dead => .dead
 | .cells T cs => .cells T (cs.map (CV.ren σ))
 | .vec wr T e bs wd xs=>match renB σ bs with | some l => .vec wr T e l wd xs | none => .dead
 | .fam T e wd xss => .fam T e wd xss
abbrev Env:=List (Nat × AV)
structure S:Type 1 where
 env:Env
 H:List Blk
inductive X where
 | t (n:Nat)
 | k (x:Value)
inductive I where
 | mov (x:X)
 | nil (x:X)
 | ffa (x:X) (off:Nat)
 | fld (x:X) (off:Nat) (n:Option Nat)
 | ld (x:X) (n:Option Nat)
 | pick (c a b:X)
 | bin (op:BinOp) (x y:X)
 | beq (neg:Bool) (x y:X)
 | inl (neg:Bool) (x:X)
 | pnl (neg:Bool) (x:X)
 | bik (op:BinOp) (d:IntKind) (x:X) (n:Nat)
 | un (op:UnOp) (x:X)
 | cvi (k:IntKind) (x:X)
 | ia (x i:X) (wd:Nat)
 | si (x i:X)
 | len (str:Bool) (x:X)
 | cps (x:X)
 | slc (x:X) (lo hi:Option X) (wd:Nat)
 | slq (x:X) (lo hi:Option X) (wd:Nat)
 | sls (x:X) (lo hi:Option X)
 | mn (x:X) (xs:List X)
 | mx (x:X) (xs:List X)
 | ext (x:X) (i:Nat)
 | bld (zero:List Value) (parts:List (Nat × Nat × X))
 | mkf (g:FuncId) (caps:List X)
 | mkm (name:String) (x:X)
 | mkg (g:FuncId) (x:X)
 | xcl (f:FuncId) (x:X)
 | bs0 (T:TypeId) (wd:Nat)
 | mki (t:TypeId) (x:X)
 | st (x v:X) (n:Nat)
 | call (f:FuncId) (args:List X)
 | alc (T:TypeId) (zero:List Value)
 | box (T:TypeId) (x:X)
 | bsl (T:TypeId) (wd len:Nat) (zero:List Value) (parts:List (Nat × Nat × X))
 | mks (T:TypeId) (wd bytes:Nat) (zero:List Value) (n c:X)
 | app (T:TypeId) (wd bytes:Nat) (x y:X)
 | apx (T:TypeId) (wd bytes:Nat) (x y:X)
 | cpy (wd:Nat) (x y:X)
 | s2b (T:TypeId) (x:X)
 | b2s (x:X)
 | ixa (x i:X) (len:Nat)
 | ala (T:TypeId) (zero:List Value)
 | sla (x:X) (lo hi:Option X) (wd n:Nat)
 | iaa (x i:X) (wd n:Nat)
 | sll (x:X) (hi:Option X) (wd n:Nat)
 | mnl (neg:Bool) (x:X)
 | clc (x:X) (args:List X)
 | inv (x:X) (name:String) (args:List X)
 | ieq (t:TypeId) (neg:Bool) (x y:X)
 | cap (x:X)
 | cvf (k:FloatKind) (x:X)
 | cfi (k:IntKind) (x:X)
 | clr (wd:Nat) (zero:List Value) (x:X)
 | bad
structure G where
 dst:Option Nat
 gd:Option (Nat × Bool)
 i:I
structure DG where
 g:G
 n:Nat
 quiet:Bool
 chk:List Nat
inductive DT where
 | stop
 | q (g:G) (n:Nat) (r:DT)
 | l (g:G) (n:Nat) (chk:List Nat) (r:DT)
 | alt (g:G) (n:Nat) (chk:List Nat) (r o:DT)
inductive IC where
 | skip
 | reg (gs:List G)
 | drw (ds:List DG)
 | drt (t:DT)
 | seq (a b:IC)
 | cut (a b:IC)
 | cond (c:X) (a b:IC)
 | block (id:Nat) (c:IC)
 | loop (c:IC)
 | exit (id:Nat)
 | ret
 | goto (l:Nat)
 | jmp (l:Nat) (a b:IC)
def look:Env→Nat→Option AV
 | [],_=>none
 | (k,x)::r,t=>bif Nat.beq k t then some x else look r t
def X.get (e:Env):X→Option AV
 | .t n=>look e n
 | .k (.bool b)=>some (.o (.c (.kb b)))
 | .k x=>some (.o (.c (.val x)))
def getV (e:Env) (x:X) (k:AV→Prop):Prop:=match x.get e with | some a=>k a | _=>False
def get1 (e:Env) (x:X) (k:A1→Prop):Prop:=match x.get e with | some (.o a)=>k a.norm | _=>False
def getC (e:Env) (x:X) (k:CV→Prop):Prop:=match x.get e with | some (.o (.c a))=>k a.norm | _=>False
def getI (e:Env) (x:X) (k:IntKind→Int→Prop):Prop:=match x.get e with | some (.o (.c (.val (.int d n))))=>k d n | _=>False
def brn (t:Bool) (A B:Prop):Prop:=(t=true→A)∧(t=false→B)
def getB (e:Env) (x:X) (k:Bool→Prop):Prop:=match x.get e with | some (.o (.c (.val (.bool b))))=>k b | some (.o (.c (.kb b)))=>k b | _=>False
def getBr (e:Env) (x:X) (A B:Prop):Prop:=match x.get e with | some (.o (.c (.val (.bool b))))=>brn b A B | some (.o (.c (.kb true)))=>A | some (.o (.c (.kb false)))=>B | _=>False
def getS (e:Env) (x:X) (k:ByteArray→Prop):Prop:=match x.get e with | some (.o (.c (.val (.string b))))=>k b | _=>False
def get1s (e:Env):List X→(List A1→Prop)→Prop
 | [],k=>k []
 | x::r,k=>get1 e x fun a=>get1s e r fun l=>k (a::l)
def chk (b:Bool) (A:Prop):Prop:=match b with | true=>A | false=>False
def takeF {α:Type}:Nat→List α → (List α → Prop)→Prop
 | 0,_,k=>k []
 | n+1,x::r,k=>takeF n r fun l=>k (x::l)
 | _+1,[],_=>False
def dropF {α:Type}:Nat→List α → (List α → Prop)→Prop
 | 0,l,k=>k l
 | n+1,_::r,k=>dropF n r k
 | _+1,[],_=>False
def putF {α:Type}:Nat→List α → List α → (List α → Prop)→Prop
 | 0,[],l,k=>k l
 | 0,v::vs,_::l,k=>putF 0 vs l fun r=>k (v::r)
 | 0,_::_,[],_=>False
 | n+1,vs,x::l,k=>putF n vs l fun r=>k (x::r)
 | _+1,_,[],_=>False
def setF:Nat→Blk→List Blk→(List Blk→Prop)→Prop
 | 0,b,_::l,k=>k (b::l)
 | n+1,b,x::l,k=>setF n b l fun r=>k (x::r)
 | _,_,[],_=>False
def pushF (b:Blk):List Blk→Nat→(Nat→List Blk→Prop)→Prop
 | [],n,k=>k n [b]
 | x::l,n,k=>pushF b l (n+1) fun m r=>k m (x::r)
def mapF (f:Value→CV):List Value→(List CV→Prop)→Prop
 | [],k=>k []
 | x::l,k=>mapF f l fun r=>k (f x::r)
def CV.sure:CV→Bool
 | .any=>false
 | .bad=>false
 | _=>true
def A1.sure:A1→Bool
 | .c x=>x.sure
 | .a xs=>xs.all CV.sure
def CV.isV:CV→Bool
 | .val _=>true
 | _=>false
def A1.cells:A1→List CV
 | .c x=>[x]
 | .a xs=>xs
def extN (w0:World) (a:Addr):Nat→Nat→(List CV→Prop)→Prop
 | _,0,k=>k []
 | i,n+1,k => ∃ x,w0.cell? (a.add i)=some x∧x.oneCell'=true∧extN w0 a (i+1) n fun l=>k (.val x::l)
def ldn (w0:World) (H:List Blk) (c:CV) (n:Nat) (k:List CV→Prop):Prop :=
 match c with
 | .ptr b o=>match H[b]? with
  | some (.cells _ cs)=>dropF o cs fun l=>takeF n l k
  | _=>False
 | .row b wd i j=>match H[b]? with
  | some (.cells _ cs)=>dropF (i*wd+j) cs fun l=>takeF n l k
  | some (.vec _ _ e bs wd' xs)=>chk (Nat.beq wd wd') (∃ x,xs[i]? = some x∧dropF j (e.f bs x) fun l=>takeF n l k)
  | _=>False
 | .val (.pointer (some a))=>extN w0 a 0 n k
 | .mrow b m wd i j=>match H[b]? with
  | some (.fam _ e wd' xss)=>chk (Nat.beq wd wd') (∃ xs x,xss[m]? = some xs∧xs[i]? = some x∧dropF j (e.f [] x) fun l=>takeF n l k)
  | _=>False
 | _=>False
def stn (H:List Blk) (c:CV) (vs:List CV) (k:List Blk→Prop):Prop :=
 match c with
 | .ptr b o=>match H[b]? with
  | some (.cells T cs)=>putF o vs cs fun l=>setF b (.cells T l) H k
  | _=>False
 | .row b wd i j=>match H[b]? with
  | some (.cells T cs)=>putF (i*wd+j) vs cs fun l=>setF b (.cells T l) H k
  | some (.vec wr T e bs wd' xs)=>chk (wr && Nat.beq wd wd') (∃ x x',xs[i]? = some x∧putF j vs (e.f bs x) (fun l=>e.f bs x'=l)∧setF b (.vec wr T e bs wd' (xs.set i x')) H k)
  | _=>False
 | _=>False
def one (k:CV→Prop):List CV→Prop
 | [x]=>k x
 | _=>False
def ld1 (w0:World) (H:List Blk) (c:CV) (n:Option Nat) (k:A1→Prop):Prop :=
 match n with
 | none=>ldn w0 H c 1 (one fun x=>match x with | .any=>False | .bad=>False | x=>k (.c x))
 | some n=>ldn w0 H c n fun l=>k (.a l)
def sameK:IntKind→IntKind→Bool
 | .i8,.i8 | .i16,.i16 | .i32,.i32 | .i64,.i64 | .u8,.u8 | .u16,.u16 | .u32,.u32 | .u64,.u64=>true
 | _,_=>false
theorem sameK_eq {a b:IntKind} (h:sameK a b=true):a=b:=by cases a <;> cases b <;> first | rfl | cases h
def binI (op:BinOp) (k:IntKind) (a:Int) (k':IntKind) (b:Int) (K:Value→Prop):Prop :=
 match op with
 | .add=>chk (sameK k k') (K (.int k (k.wrap (a+b))))
 | .sub=>chk (sameK k k') (K (.int k (k.wrap (a - b))))
 | .mul=>chk (sameK k k') (K (.int k (k.wrap (a*b))))
 | .quo=>chk (sameK k k') (b≠0∧K (.int k (k.wrap (a.tdiv b))))
 | .rem=>chk (sameK k k') (b≠0∧K (.int k (a.tmod b)))
 | .and=>chk (sameK k k') (K (.int k (k.wrap ((BitVec.ofInt k.bits a &&& BitVec.ofInt k.bits b).toNat:Int))))
 | .or=>chk (sameK k k') (K (.int k (k.wrap ((BitVec.ofInt k.bits a ||| BitVec.ofInt k.bits b).toNat:Int))))
 | .xor=>chk (sameK k k') (K (.int k (k.wrap ((BitVec.ofInt k.bits a ^^^ BitVec.ofInt k.bits b).toNat:Int))))
 | .andNot=>chk (sameK k k') (K (.int k (k.wrap ((BitVec.ofInt k.bits a &&& ~~~(BitVec.ofInt k.bits b)).toNat:Int))))
 | .shl=>0≤b∧K (.int k (k.wrap (a*2 ^ (min b.toNat k.bits))))
 | .shr=>0≤b∧K (.int k (a.fdiv (2 ^ (min b.toNat k.bits))))
 | .eql=>chk (sameK k k') (K (.bool (a == b)))
 | .neq=>chk (sameK k k') (K (.bool (a != b)))
 | .lss=>chk (sameK k k') (K (.bool (decide (a<b))))
 | .leq=>chk (sameK k k') (K (.bool (decide (a≤b))))
 | .gtr=>chk (sameK k k') (K (.bool (decide (a>b))))
 | .geq=>chk (sameK k k') (K (.bool (decide (a≥b))))
def binK (op:BinOp) (d k:IntKind) (a:Int) (n:Nat) (K:Value→Prop):Prop :=
 match op with
 | .quo=>chk (sameK k d) (K (.int k (k.wrap (a.tdiv n))))
 | .rem=>chk (sameK k d) (K (.int k (a.tmod n)))
 | .shl=>K (.int k (k.wrap (a*2 ^ (min n k.bits))))
 | .shr=>K (.int k (a.fdiv (2 ^ (min n k.bits))))
 | _=>False
def binS (op:BinOp) (a b:ByteArray) (K:Value→Prop):Prop :=
 match op with
 | .add=>a.size+b.size≤9223372036854775807∧K (.string (a++b))
 | .eql=>K (.bool (a.toList == b.toList))
 | .neq=>K (.bool (!(a.toList == b.toList)))
 | _=>False
def fltRun (op:BinOp) (k:FloatKind) (a b:Nat):Sem Value:=match op with
 | .add | .sub | .mul | .quo=>Op.floatArith op k a b
 | _=>Op.floatCmp op k a b
def toFlt (k:FloatKind) (v:Value):Sem Value:=match v with
 | .int _ n=>Conv.intToFloat k n
 | .float s b=>Conv.floatToFloat s b k
 | _=>stuck ""
def ofFlt (k:IntKind) (v:Value):Sem Value:=match v with
 | .float s b=>Conv.floatToInt s b k
 | _=>stuck ""
def Gives (m:Sem Value) (r:Value):Prop:=r.oneCell'=true ∧ ∀ (P:Program) (w:World),m.run P w = .ok r w
def ExtOk (P:Program) (f:FuncId) (v r:Value):Prop:=r.oneCell'=true ∧ ∀ w,(callFunc f #[v]).run P w = .ok (.value r) w
def bin1 (op:BinOp) (x y:Value) (K:Value→Prop):Prop :=
 match x with
 | .int k a=>(match y with | .int k' b=>binI op k a k' b K | _=>False)
 | .string a=>(match y with | .string b=>binS op a b K | _=>False)
 | .float k a=>(match y with | .float k' b=>k=k' ∧ ∃ r,Gives (fltRun op k a b) r∧K r | _=>False)
 | _=>False
def un1 (op:UnOp) (x:Value) (K:Value→Prop):Prop :=
 match op with
 | .neg=>(match x with | .int k n=>K (.int k (k.wrap (0 - n))) | _=>False)
 | .not=>(match x with | .bool b=>K (.bool (!b)) | _=>False)
 | .xor=>(match x with | .int k n=>K (.int k (k.wrap ((BitVec.ofInt k.bits (if k.signed then -1 else k.max) ^^^ BitVec.ofInt k.bits n).toNat:Int))) | _=>False)
 | _=>False
def fillF:List CV→List (Nat × Nat × X)→Env→(List CV→Prop)→Prop
 | z,[],_,k=>k z
 | z,(off,size,x)::r,e,k=>get1 e x fun a=>chk (Nat.beq a.cells.length size) (putF off a.cells z fun z'=>fillF z' r e k)
def mnF (lt:Bool):Value→List X→Env→(Value→Prop)→Prop
 | z,[],_,k=>k z
 | z,x::r,e,k=>match z with
  | .int d n=>getI e x fun _ m=>mnF lt (.int d (bif lt then (if m<n then m else n) else (if m>n then m else n))) r e k
  | _=>False
def getP:List CV→(List (Nat × Nat)→Prop)→Prop
 | [],k=>k []
 | .ptr b o::r,k=>getP r fun l=>k ((b,o)::l)
 | _::_,_=>False
def getCs (e:Env):List X→(List CV→Prop)→Prop
 | [],k=>k []
 | x::r,k=>getC e x fun a=>getCs e r fun l=>k (a::l)
def flat {α:Type} (e:Enc α) (bs:List Nat) (xs:List α):List CV:=xs.flatMap (e.f bs)
def src {α:Type} (w0:World) (H:List Blk) (e:Enc α) (bs:List Nat) (wd:Nat) (y:CV) (ys:List α):Prop :=
 match y with
 | .val (.slice none 0 _)=>ys=[]
 | .val (.slice (some a) n _)=>ys.length=n ∧ ∀ i x,(flat e bs ys)[i]? = some x → ∃ v,x = .val v∧v.oneCell'=true∧w0.cell? (a.add i)=some v
 | .val (.string s)=>ys.length=s.size∧wd=1∧flat e bs ys=s.data.toList.map fun b => .val (.int .u8 b.toNat)
 | .vec b n=>match H[b]? with
  | some (.vec _ _ e' bs' wd' zs)=>wd'=wd∧n≤zs.length∧ys.length=n∧flat e bs ys=flat e' bs' (zs.take n)
  | _=>False
 | .sli b wd1 o n _=>match H[b]? with
  | some (.cells _ cs)=>wd1=wd∧ys.length=n∧dropF (o*wd) cs fun l=>takeF (n*wd) l fun r=>flat e bs ys=r
  | some (.vec _ _ e' bs' wd' zs)=>wd1=wd∧wd'=wd∧o+n≤zs.length∧ys.length=n∧flat e bs ys=flat e' bs' ((zs.drop o).take n)
  | _=>False
 | .mem b j n=>match H[b]? with
  | some (.fam _ e' wd' xss)=>wd'=wd ∧ ∃ zs,xss[j]? = some zs∧n≤zs.length∧ys.length=n∧flat e bs ys=flat e' [] (zs.take n)
  | _=>False
 | _=>False
def FrameP (w:World) (F:Nat→Prop) (w':World):Prop :=
 w'.os=w.os∧w'.tape=w.tape∧w'.output=w.output∧w.heap.size≤w'.heap.size ∧ ∀ i,i<w.heap.size → ¬ F i→w'.heap[i]? = w.heap[i]?
abbrev Ren:=List (Option Nat × Nat)
def Ren.at (ρ:Ren) (b:Nat):Option Nat:=(ρ[b]?).bind (·.1)
def pairN (a b:Nat):Nat:=2 ^ a*(2*b+1)
def optN:Option Nat→Nat
 | none=>0
 | some g=>g+1
def encM:List (Option Nat × Nat)→Nat
 | []=>0
 | (o,c)::r=>pairN (optN o) (pairN c (encM r))
theorem pairN_pos (a b:Nat):1≤pairN a b:=Nat.mul_pos (Nat.two_pow_pos a) (by omega)
theorem pairN_aux {a b d b':Nat} (h:2 ^ a*(2*b+1)=2 ^ (a+d)*(2*b'+1)):d=0∧b=b':=by
 rw [Nat.pow_add,Nat.mul_assoc] at h
 have h:=Nat.eq_of_mul_eq_mul_left (Nat.two_pow_pos a) h
 cases d with
 | zero=>rw [Nat.pow_zero,Nat.one_mul] at h; exact ⟨rfl,by omega⟩
 | succ d =>
  rw [Nat.pow_succ,Nat.mul_comm (2 ^ d) 2,Nat.mul_assoc] at h
  omega
theorem pairN_inj {a b a' b':Nat} (h:pairN a b=pairN a' b'):a=a'∧b=b':=by
 unfold pairN at h
 rcases Nat.le_total a a' with c | c
 ·obtain ⟨d,rfl⟩:=Nat.exists_eq_add_of_le c
  obtain ⟨e1,e2⟩:=pairN_aux h
  exact ⟨by omega,e2⟩
 obtain ⟨d,rfl⟩:=Nat.exists_eq_add_of_le c
 obtain ⟨e1,e2⟩:=pairN_aux h.symm
 exact ⟨by omega,e2.symm⟩
theorem optN_inj {a b:Option Nat} (h:optN a=optN b):a=b:=by
 cases a <;> cases b <;> simp [optN] at h ⊢
 exact h
theorem encM_inj:∀ {a b:List (Option Nat × Nat)},encM a=encM b→a=b
 | [],[],_=>rfl
 | [],(o,c)::r,h=>by have:=pairN_pos (optN o) (pairN c (encM r)); simp only [encM] at h; omega
 | (o,c)::r,[],h=>by have:=pairN_pos (optN o) (pairN c (encM r)); simp only [encM] at h; omega
 | (o,c)::r,(o',c')::r',h=>by
  simp only [encM] at h
  obtain ⟨h1,h2⟩:=pairN_inj h
  obtain ⟨h3,h4⟩:=pairN_inj h2
  rw [optN_inj h1,h3,encM_inj h4]
def owns (e:Option Nat × Nat) (g:Nat):Prop:=e.1=some g∨(e.1=none ∧ ∃ ms c,encM ms=e.2∧(some g,c)∈ms)
def Ren.own (ρ:Ren) (b:Nat):Nat→Prop:=match ρ[b]? with
 | some e=>owns e
 | none=>fun _=>False
inductive All2 {α β:Type} (R:α → β → Prop):List α → List β → Prop where
 | nil:All2 R [] []
 | cons {a b l m}:R a b→All2 R l m→All2 R (a::l) (b::m)
def CV.R (ρ:Ren):CV→Value→Prop
 | .val x,y=>y=x∧x.oneCell'=true
 | .ptr b o,y => ∃ g,ρ.at b=some g∧y = .pointer (some ⟨g,o,none⟩)
 | .row b wd i j,y => ∃ g,ρ.at b=some g∧y = .pointer (some ⟨g,i*wd+j,none⟩)
 | .sli b wd o n c,y => ∃ g,ρ.at b=some g∧y = .slice (some ⟨g,o*wd,none⟩) n c∧n≤c
 | .vec b n,y => ∃ e,ρ[b]? = some e∧((∃ g,e.1=some g∧y = .slice (some ⟨g,0,none⟩) n e.2∧n≤e.2)∨(e.1=none∧n=0∧y = .slice none 0 0))
 | .clo g caps,y => ∃ vs,y = .func (.func g) #[] vs∧All2 (fun (c:Nat × Nat) v => ∃ h,ρ.at c.1=some h∧v=Value.pointer (some ⟨h,c.2,none⟩)) caps vs.toList
 | .ifc t b o,y => ∃ g,ρ.at b=some g∧y = .iface t (.pointer (some ⟨g,o,none⟩))
 | .kb b,y=>y = .bool b
 | .any,y=>y.oneCell'=true
 | .bad,_=>False
 | .mem b j n,y => ∃ e ms m,ρ[b]? = some e∧encM ms=e.2∧ms[j]? = some m∧((∃ g,m.1=some g∧y = .slice (some ⟨g,0,none⟩) n m.2∧n≤m.2)∨(m.1=none∧n=0∧y = .slice none 0 0))
 | .mrow b j wd i o,y => ∃ e ms m g,ρ[b]? = some e∧encM ms=e.2∧ms[j]? = some m∧m.1=some g∧y = .pointer (some ⟨g,i*wd+o,none⟩)
 | .tl b wd o n p,y => ∃ e,ρ[b]? = some e∧((∃ g,e.1=some g∧y = .slice (some ⟨g,p,none⟩) n (e.2 - o)∧o+n≤e.2∧(o<e.2→p=o*wd))∨(e.1=none∧n=0∧o=0∧y = .slice none 0 0))
 | .bnd name t b o,y => ∃ g,ρ.at b=some g∧y = .func (.method name) #[.iface t (.pointer (some ⟨g,o,none⟩))] #[]
 | .bnf f b o,y => ∃ g,ρ.at b=some g∧y = .func (.func f) #[.pointer (some ⟨g,o,none⟩)] #[]
def A1.R (ρ:Ren):A1→Value→Prop
 | .c x,y=>x.R ρ y
 | .a xs,y => ∃ ys,y = .agg ys∧All2 (CV.R ρ) xs ys.toList
def AV.R (ρ:Ren):AV→Value→Prop
 | .o x,y=>x.R ρ y
 | .t xs,y => ∃ ys,y = .tuple ys∧All2 (A1.R ρ) xs ys.toList
def memOk {α:Type} (ρ:Ren) (w:World) (T:TypeId) (en:Enc α) (wd:Nat) (m:Option Nat × Nat) (xs:List α):Prop :=
 (m.1=none∧xs=[]∧m.2=0) ∨
  ∃ g arr fz,m.1=some g∧w.heap[g]? = some (.cells arr T fz)∧arr.size=m.2*wd∧xs.length≤m.2∧m.2≤9223372036854775807∧(∃ sp,All2 (CV.R ρ) (flat en [] xs++sp) arr.toList ∧ ∀ x∈sp,x = .any)
def Blk.ok (ρ:Ren) (e:Option Nat × Nat) (w:World):Blk→Prop
 | .dead=>True
 | .cells T cs => ∃ g arr,e.1=some g∧w.heap[g]? = some (.cells arr T (0,0))∧All2 (CV.R ρ) cs arr.toList
 | .vec wr T en bs wd xs=>0<wd∧(∀ x,(en.f bs x).length=wd) ∧
  ((e.1=none∧xs=[]∧e.2=0) ∨
   ∃ g arr fz,e.1=some g∧w.heap[g]? = some (.cells arr T fz)∧arr.size=e.2*wd∧xs.length≤e.2∧e.2≤9223372036854775807∧(∃ sp,All2 (CV.R ρ) (flat en bs xs++sp) arr.toList ∧ ∀ x∈sp,x = .any)∧(wr=true→fz=(0,0)))
 | .fam T en wd xss=>0<wd∧(∀ x,(en.f [] x).length=wd)∧e.1=none ∧ ∃ ms:List (Option Nat × Nat),encM ms=e.2∧ms.length=xss.length ∧
  (∀ (i j:Nat) (m m':Option Nat × Nat) (g:Nat),ms[i]? = some m→ms[j]? = some m'→m.1=some g→m'.1=some g→i=j) ∧
  ∀ (j:Nat) m xs,ms[j]? = some m→xss[j]? = some xs→memOk ρ w T en wd m xs
def Blk.live:Blk→Bool
 | .dead=>false
 | _=>true
def image (ρ:Ren) (H:List Blk) (g:Nat):Prop := ∃ b k,H[b]? = some k∧k.live=true ∧ ρ.own b g
structure RH (w0:World) (ρ:Ren) (H:List Blk) (w:World):Prop where
 len:ρ.length=H.length
 ok:∀ (b:Nat) (k:Blk) (e:Option Nat × Nat),H[b]? = some k → ρ[b]? = some e→k.ok ρ e w
 inj:∀ (b b':Nat) (k k':Blk) (g:Nat),H[b]? = some k→H[b']? = some k'→k.live=true→k'.live=true → ρ.own b g → ρ.own b' g→b=b'
 lo:∀ g,image ρ H g→w0.heap.size≤g∧g<w.heap.size
 base:Below w0.heap.size w0 w
structure CallsA (P:Program) (w0:World) (f:FuncId) (args:List A1) (H:List Blk) (R:AV→List Blk→Prop):Prop where
 cal:(match P.funcs[f]? with | some fn=>fn.body.isSome && !(fn.name == "runtime.NumGoroutine") | none=>false)=true
 out:∀ ρ w vs,RH w0 ρ H w→All2 (A1.R ρ) args vs→Calls P f vs.toArray w fun e w' =>
  ∃ r H' ρ' v,R r H'∧e = .returned v∧AV.R ρ' r v∧RH w0 ρ' H' w'∧(∃ t,ρ' = ρ ++ t)∧FrameP w (image ρ H) w' ∧ ∀ g,image ρ' H' g→image ρ H g∨w.heap.size≤g
def notStr:CV→Prop
 | .val (.string _)=>False
 | _=>True
def addV (a:Addr) (n:Nat):CV := .val (.pointer (some (a.add n)))
def appI (w0:World) (T:TypeId) (wd bytes:Nat) (x y:X) (s:S) (K:AV→S→Prop):Prop :=
 getC s.env x fun c=>getC s.env y fun d=>match c with
  | .vec b n=>(match s.H[b]? with
   | some (.vec wr T' e bs wd' xs)=>chk (wr && (Nat.beq T' T && Nat.beq wd' wd)) (n=xs.length ∧ ∃ ys,src w0 s.H e bs wd d ys∧(xs++ys).length*bytes≤140737488355328∧(xs++ys).length≤140737488355328 ∧
    setF b .dead s.H fun H1=>pushF (.vec true T e bs wd (xs++ys)) H1 0 fun id H2=>K (.o (.c (.vec id (xs++ys).length))) { s with H:=H2 })
   | _=>False)
  | .tl b wd1 o n _=>(match s.H[b]? with
   | some (.vec wr T' e bs wd' xs)=>chk (wr && (Nat.beq T' T && (Nat.beq wd' wd && Nat.beq wd1 wd))) (o+n=xs.length ∧ ∃ ys,src w0 s.H e bs wd d ys∧(xs++ys).length*bytes≤140737488355328∧(xs++ys).length≤140737488355328 ∧
    setF b .dead s.H fun H1 => ∀ o' p zs,o'≤o→zs.drop o'=xs.drop o++ys→o'+(n+ys.length)=zs.length→pushF (.vec true T e bs wd zs) H1 0 fun id H2=>K (.o (.c (.tl id wd o' (n+ys.length) p))) { s with H:=H2 })
   | _=>False)
  | .val (.slice none 0 0)=>0<wd ∧ ∃ (α:Type) (e:Enc α) (bs:List Nat) (ys:List α),(∀ y,(e.f bs y).length=wd)∧src w0 s.H e bs wd d ys∧ys.length*bytes≤140737488355328∧ys.length≤140737488355328 ∧
   pushF (.vec true T e bs wd ys) s.H 0 fun id H2=>K (.o (.c (.vec id ys.length))) { s with H:=H2 }
  | _=>False
def methOf (P:Program) (t:TypeId) (name:String) (f:FuncId):Prop := ∀ (a:Addr) (w:World),(method (P.types.size+Made.depth) t (.pointer (some a)) name).run P w = .ok (f,.pointer (some a)) w
def nilOk (P:Program) (t:TypeId) (name:String):Prop := ∀ (a:Addr) (w:World),(nilAhead (P.types.size+Made.depth) t (.pointer (some a)) name).run P w = .ok (some false) w
def ieqOf (P:Program) (w0:World) (t:TypeId) (x y:Value) (r:Bool):Prop := ∀ w,Below w0.heap.size w0 w→(Op.equal t x y).run P w = .ok r w
def cutC (n:Nat) (d:CV) (k:CV→Prop):Prop:=match d with
 | .vec b m=>k (.vec b (min m n))
 | .sli b wd o m c=>k (.sli b wd o (min m n) c)
 | .val (.slice (some a) m c)=>k (.val (.slice (some a) (min m n) c))
 | _=>False
def Ghost (w0:World) (H H1:List Blk):Prop := ∀ ρ w,RH w0 ρ H w → ∃ t,RH w0 (ρ ++ t) H1 w ∧ ∀ g,image (ρ ++ t) H1 g→image ρ H g
def evI (P:Program) (w0:World) (i:I) (s:S) (K:AV→S→Prop):Prop :=
 match i with
 | .mov x=>getV s.env x fun a=>K a s
 | .nil x=>getC s.env x fun c=>match c with
  | .ptr b o=>K (.o (.c (.ptr b o))) s
  | .row b wd i j=>K (.o (.c (.row b wd i j))) s
  | .ifc t b o=>K (.o (.c (.ifc t b o))) s
  | .clo g l=>K (.o (.c (.clo g l))) s
  | .val (.pointer (some a))=>K (.o (.c (.val (.pointer (some a))))) s
  | .val (.iface t y)=>K (.o (.c (.val (.iface t y)))) s
  | .val (.func (.func g) a b)=>K (.o (.c (.val (.func (.func g) a b)))) s
  | .mrow b m wd i j=>K (.o (.c (.mrow b m wd i j))) s
  | .bnd name t b o=>nilOk P t name∧K (.o (.c (.bnd name t b o))) s
  | .bnf f b o=>K (.o (.c (.bnf f b o))) s
  | _=>False
 | .ffa x off=>getC s.env x fun c=>match c with
  | .ptr b o=>K (.o (.c (.ptr b (o+off)))) s
  | .row b wd i j=>K (.o (.c (.row b wd i (j+off)))) s
  | .val (.pointer (some a))=>K (.o (.c (addV a off))) s
  | .mrow b m wd i j=>K (.o (.c (.mrow b m wd i (j+off)))) s
  | _=>False
 | .fld x off n=>get1 s.env x fun a=>match a with
  | .a xs=>dropF off xs fun l=>(match n with
   | none=>takeF 1 l (one fun c=>K (.o (.c c)) s)
   | some n=>takeF n l fun l=>K (.o (.a l)) s)
  | _=>False
 | .ld x n=>getC s.env x fun c=>ld1 w0 s.H c n fun a=>K (.o a) s
 | .pick c a b=>getBr s.env c (getV s.env a fun a=>K a s) (getV s.env b fun b=>K b s)
 | .bin op x y=>getC s.env x fun a=>getC s.env y fun b=>match a with
  | .val a=>(match b with | .val b=>bin1 op a b fun v=>K (.o (.c (.val v))) s | _=>False)
  | _=>False
 | .bik op d x n=>getI s.env x fun k a=>binK op d k a n fun v=>K (.o (.c (.val v))) s
 | .beq neg x y=>getB s.env x fun a=>getB s.env y fun b=>K (.o (.c (.val (.bool (bif neg then !(a == b) else a == b))))) s
 | .inl neg x=>getC s.env x fun a=>match a with
  | .val .nilIface=>K (.o (.c (.val (.bool (bif neg then false else true))))) s
  | .val (.iface _ _)=>K (.o (.c (.val (.bool (bif neg then true else false))))) s
  | .ifc _ _ _=>K (.o (.c (.val (.bool (bif neg then true else false))))) s
  | _=>False
 | .un op x=>getC s.env x fun a=>match a with
  | .val a=>un1 op a fun v=>K (.o (.c (.val v))) s
  | _=>False
 | .cvi k x=>getI s.env x fun _ n=>K (.o (.c (.val (.int k (k.wrap n))))) s
 | .ia x i wd=>getC s.env x fun c=>getI s.env i fun _ n=>match c with
  | .vec b l=>(0≤n∧n<l)∧K (.o (.c (.row b wd n.toNat 0))) s
  | .sli b wd' o l _=>chk (Nat.beq wd' wd) ((0≤n∧n<l)∧K (.o (.c (.row b wd (o+n.toNat) 0))) s)
  | .val (.slice (some a) l _)=>(0≤n∧n<l)∧K (.o (.c (addV a (n.toNat*wd)))) s
  | .val (.slice A l _)=>(0≤n∧n<l) ∧ ∃ a,A=some a∧K (.o (.c (addV a (n.toNat*wd)))) s
  | .mem b j l=>(0≤n∧n<l)∧K (.o (.c (.mrow b j wd n.toNat 0))) s
  | .tl b wd' o l _=>chk (Nat.beq wd' wd) ((0≤n∧n<l)∧K (.o (.c (.row b wd (o+n.toNat) 0))) s)
  | _=>False
 | .si x i=>getS s.env x fun b=>getI s.env i fun _ n => ∃ y,(if 0≤n then b[n.toNat]? else none)=some y∧K (.o (.c (.val (.int .u8 y.toNat)))) s
 | .len str x=>getC s.env x fun c=>match c,str with
  | .vec _ l,false=>K (.o (.c (.val (.int .i64 l)))) s
  | .sli _ _ _ l _,false=>K (.o (.c (.val (.int .i64 l)))) s
  | .val (.slice _ l _),false=>K (.o (.c (.val (.int .i64 l)))) s
  | .mem _ _ l,false=>K (.o (.c (.val (.int .i64 l)))) s
  | .tl _ _ _ l _,false=>K (.o (.c (.val (.int .i64 l)))) s
  | .val (.string b),true=>K (.o (.c (.val (.int .i64 b.size)))) s
  | _,_=>False
 | .cap x=>getC s.env x fun c=>match c with
  | .vec _ l => ∀ c:Nat,l≤c→K (.o (.c (.val (.int .i64 c)))) s
  | .sli _ _ _ _ c=>K (.o (.c (.val (.int .i64 c)))) s
  | .val (.slice _ _ c)=>K (.o (.c (.val (.int .i64 c)))) s
  | _=>False
 | .cps x=>getS s.env x fun b=>K (.o (.c (.val (.string b)))) s
 | .slc x lo hi wd=>getC s.env x fun c=>getI s.env (lo.getD (.k (.int .i64 0))) fun _ l=>match c with
  | .vec b n=>getI s.env (hi.getD (.k (.int .i64 n))) fun _ h=>(0≤l∧l≤h∧h≤n) ∧
   (((∀ c:Nat,h≤c→l<c→K (.o (.c (.sli b wd l.toNat (h.toNat - l.toNat) (c - l.toNat)))) s)∧(l=n→K (.o (.c (.sli b wd 0 0 0))) s)∧(l=n→n=0→K (.o (.c (.val (.slice none 0 0)))) s)) ∨
    (l=0∧match s.H[b]? with
     | some (.vec wr T e bs wd' xs)=>setF b .dead s.H fun H1=>pushF (.vec wr T e bs wd' (xs.take h.toNat)) H1 0 fun id H2=>K (.o (.c (.vec id h.toNat))) { s with H:=H2 }
     | _=>False))
  | .sli b wd' o n c=>getI s.env (hi.getD (.k (.int .i64 n))) fun _ h=>chk (Nat.beq wd' wd) ((0≤l∧l≤h∧h≤n) ∧
   (l<c→K (.o (.c (.sli b wd (o+l.toNat) (h.toNat - l.toNat) (c - l.toNat)))) s)∧(l=n → ¬ l<c→K (.o (.c (.sli b wd o 0 0))) s))
  | .val (.slice none 0 0)=>getI s.env (hi.getD (.k (.int .i64 0))) fun _ h=>l=0∧h=0∧(K (.o (.c (.val (.slice none 0 0)))) s ∨
   ∃ (T:TypeId) (α:Type) (e:Enc α),0<wd∧(∀ y,(e.f [] y).length=wd)∧pushF (.vec true T e [] wd []) s.H 0 fun id H=>K (.o (.c (.vec id 0))) { s with H:=H })
  | .val (.slice (some a) n c)=>getI s.env (hi.getD (.k (.int .i64 n))) fun _ h=>(0≤l∧l≤h∧h≤c)∧K (.o (.c (.val (.slice (some (if c=l.toNat then a else a.add (l.toNat*wd))) (h.toNat - l.toNat) (c - l.toNat))))) s
  | _=>False
 | .slq x lo hi wd=>getC s.env x fun c=>getI s.env (lo.getD (.k (.int .i64 0))) fun _ l=>match c with
  | .vec b n=>getI s.env (hi.getD (.k (.int .i64 n))) fun _ h=>(0≤l∧l≤h∧h≤n) ∧
   (((∀ c:Nat,h≤c→l<c→K (.o (.c (.sli b wd l.toNat (h.toNat - l.toNat) (c - l.toNat)))) s)∧(l=n→K (.o (.c (.sli b wd 0 0 0))) s)∧(l=n→n=0→K (.o (.c (.val (.slice none 0 0)))) s)) ∨
    ∀ p:Nat,K (.o (.c (.tl b wd l.toNat (h.toNat - l.toNat) p))) s)
  | .sli b wd' o n c=>getI s.env (hi.getD (.k (.int .i64 n))) fun _ h=>chk (Nat.beq wd' wd) ((0≤l∧l≤h∧h≤n) ∧
   (l<c→K (.o (.c (.sli b wd (o+l.toNat) (h.toNat - l.toNat) (c - l.toNat)))) s)∧(l=n → ¬ l<c→K (.o (.c (.sli b wd o 0 0))) s))
  | .val (.slice none 0 0)=>getI s.env (hi.getD (.k (.int .i64 0))) fun _ h=>l=0∧h=0∧(K (.o (.c (.val (.slice none 0 0)))) s∨False)
  | .val (.slice (some a) n c)=>getI s.env (hi.getD (.k (.int .i64 n))) fun _ h=>(0≤l∧l≤h∧h≤c)∧K (.o (.c (.val (.slice (some (if c=l.toNat then a else a.add (l.toNat*wd))) (h.toNat - l.toNat) (c - l.toNat))))) s
  | .tl b wd' o n _=>getI s.env (hi.getD (.k (.int .i64 n))) fun _ h=>chk (Nat.beq wd' wd) ((0≤l∧l≤h∧h≤n) ∧ ∀ p:Nat,K (.o (.c (.tl b wd (o+l.toNat) (h.toNat - l.toNat) p))) s)
  | _=>False
 | .sls x lo hi=>getS s.env x fun b=>getI s.env (lo.getD (.k (.int .i64 0))) fun _ l=>getI s.env (hi.getD (.k (.int .i64 b.size))) fun _ h =>
  (0≤l∧l≤h∧h≤b.size)∧K (.o (.c (.val (.string (b.extract l.toNat h.toNat))))) s
 | .sla x lo hi wd n=>getC s.env x fun c=>getI s.env (lo.getD (.k (.int .i64 0))) fun _ l=>getI s.env (hi.getD (.k (.int .i64 n))) fun _ h=>match c with
  | .ptr b 0=>((0≤l∧l≤h∧h≤n)∧l<n)∧K (.o (.c (.sli b wd l.toNat (h.toNat - l.toNat) (n - l.toNat)))) s
  | .ptr b (o+1)=>chk (Nat.beq wd 1) (((0≤l∧l≤h∧h≤n)∧l<n)∧K (.o (.c (.sli b 1 (o+1+l.toNat) (h.toNat - l.toNat) (n - l.toNat)))) s)
  | _=>False
 | .sll x hi wd n=>getC s.env x fun c=>getI s.env (hi.getD (.k (.int .i64 n))) fun _ h=>match c with
  | .ptr b 0=>((0≤h∧h≤n)∧0<n)∧(K (.o (.c (.sli b wd 0 h.toNat n))) s ∨
   (match s.H[b]? with
    | some (.cells T cs)=>0<wd∧cs.length=n*wd∧n≤9223372036854775807 ∧ ∃ (α:Type) (e:Enc α) (bs:List Nat) (xs:List α),(∀ x,(e.f bs x).length=wd)∧xs.length=h.toNat∧flat e bs xs=cs.take (h.toNat*wd) ∧
     setF b .dead s.H fun H1=>pushF (.vec true T e bs wd xs) H1 0 fun id H2=>K (.o (.c (.vec id h.toNat))) { s with H:=H2 }
    | _=>False))
  | .ptr b (o+1)=>chk (Nat.beq wd 1) (((0≤h∧h≤n)∧0<n)∧K (.o (.c (.sli b 1 (o+1) h.toNat n))) s)
  | _=>False
 | .iaa x i wd n=>getC s.env x fun c=>getI s.env i fun _ k=>match c with
  | .ptr b o=>(0≤k∧k<n)∧K (.o (.c (.row b wd k.toNat o))) s
  | .val (.pointer (some a))=>(0≤k∧k<n)∧K (.o (.c (addV a (k.toNat*wd)))) s
  | .row b wd2 i j=>chk (Nat.beq wd 1) ((0≤k∧k<n)∧K (.o (.c (.row b wd2 i (j+k.toNat)))) s)
  | _=>False
 | .pnl neg x=>getC s.env x fun c=>match c with
  | .val (.pointer none)=>K (.o (.c (.val (.bool (bif neg then false else true))))) s
  | .ptr _ _=>K (.o (.c (.val (.bool (bif neg then true else false))))) s
  | _=>False
 | .mnl neg x=>getC s.env x fun c=>match c with
  | .val (.map none)=>K (.o (.c (.val (.bool (bif neg then false else true))))) s
  | _=>False
 | .clc x args=>getC s.env x fun c=>match c with
  | .clo g ps=>get1s s.env args fun l=>CallsA P w0 g (l++ps.map fun p => .c (.ptr p.1 p.2)) s.H fun r H=>K r { s with H:=H }
  | .bnf g b o=>get1s s.env args fun l=>CallsA P w0 g (.c (.ptr b o)::l) s.H fun r H=>K r { s with H:=H }
  | _=>False
 | .inv x name args=>getC s.env x fun c=>match c with
  | .ifc t b o => ∃ f,methOf P t name f∧get1s s.env args fun l=>CallsA P w0 f (.c (.ptr b o)::l) s.H fun r H=>K r { s with H:=H }
  | _=>False
 | .ieq t neg x y=>getC s.env x fun a=>getC s.env y fun b=>match a,b with
  | .val (.iface t1 v1),.val (.iface t2 v2) => ∃ r,ieqOf P w0 t (.iface t1 v1) (.iface t2 v2) r∧K (.o (.c (.val (.bool (bif neg then !r else r))))) s
  | .val .nilIface,.val (.iface t2 v2)=>ieqOf P w0 t .nilIface (.iface t2 v2) false∧K (.o (.c (.val (.bool neg)))) s
  | _,_=>False
 | .cvf k x=>getC s.env x fun c=>match c with
  | .val v => ∃ r,Gives (toFlt k v) r∧K (.o (.c (.val r))) s
  | _=>False
 | .cfi k x=>getC s.env x fun c=>match c with
  | .val v => ∃ r,Gives (ofFlt k v) r∧K (.o (.c (.val r))) s
  | _=>False
 | .clr wd z x=>getC s.env x fun c=>match c with
  | .sli b wd1 o n _=>(match s.H[b]? with
   | some (.vec wr T e bs wd' xs)=>chk (wr && (Nat.beq wd' wd && Nat.beq wd1 wd)) (o+n≤xs.length ∧ ∃ q,e.f bs q=z.map .val ∧
    setF b (.vec wr T e bs wd' (xs.take o++(List.replicate n q++xs.drop (o+n)))) s.H fun H=>K (.t []) { s with H:=H })
   | _=>False)
  | _=>False
 | .bad=>False
 | .mn x xs=>getI s.env x fun d n=>mnF true (.int d n) xs s.env fun v=>K (.o (.c (.val v))) s
 | .mx x xs=>getI s.env x fun d n=>mnF false (.int d n) xs s.env fun v=>K (.o (.c (.val v))) s
 | .ext x i=>getV s.env x fun a=>match a with
  | .t l=>(match l[i]? with | some y=>K (.o y) s | none=>False)
  | _=>False
 | .ixa x i len=>get1 s.env x fun a=>match a with
  | .a xs=>getI s.env i fun _ n=>(0≤n∧n<len) ∧ ∃ c,xs[n.toNat]? = some c∧K (.o (.c c)) s
  | _=>False
 | .bld zero parts=>mapF .val zero fun z=>fillF z parts s.env fun l=>K (.o (.a l)) s
 | .mkf g caps=>getCs s.env caps fun l=>getP l fun ps=>K (.o (.c (.clo g ps))) s
 | .mkg g x=>getC s.env x fun c=>match c with
  | .ptr b o=>K (.o (.c (.bnf g b o))) s
  | _=>False
 | .xcl f x=>getC s.env x fun c=>match c with
  | .val v => ∃ r,ExtOk P f v r∧K (.o (.c (.val r))) s
  | _=>False
 | .mkm name x=>getC s.env x fun c=>match c with
  | .ifc t b o=>K (.o (.c (.bnd name t b o))) s
  | _=>False
 | .bs0 T wd=>0<wd ∧ ∃ (α:Type) (e:Enc α) (bs:List Nat),(∀ y,(e.f bs y).length=wd)∧pushF (.vec true T e bs wd []) s.H 0 fun id H=>K (.o (.c (.vec id 0))) { s with H:=H }
 | .mki t x=>getC s.env x fun c=>match c with
  | .ptr b o=>K (.o (.c (.ifc t b o))) s
  | .val y=>K (.o (.c (.val (.iface t y)))) s
  | _=>False
 | .st x v n=>getC s.env x fun c=>get1 s.env v fun a=>chk (Nat.beq a.cells.length n) (stn s.H c a.cells fun H=>K (.t []) { s with H:=H })
 | .call f args=>get1s s.env args fun l=>CallsA P w0 f l s.H fun r H=>K r { s with H:=H }
 | .alc T zero=>mapF .val zero fun z=>pushF (.cells T z) s.H 0 fun id H=>K (.o (.c (.ptr id 0))) { s with H:=H }
 | .ala T zero=>(mapF .val zero fun z=>pushF (.cells T z) s.H 0 fun id H=>K (.o (.c (.ptr id 0))) { s with H:=H }) ∨
  ∃ (α:Type) (e:Enc α) (bs:List Nat) (wd:Nat) (xs:List α),0<wd∧(∀ x,(e.f bs x).length=wd)∧flat e bs xs=zero.map .val∧xs.length≤9223372036854775807∧pushF (.vec true T e bs wd xs) s.H 0 fun id H=>K (.o (.c (.ptr id 0))) { s with H:=H }
 | .box T x=>get1 s.env x fun a=>pushF (.cells T a.cells) s.H 0 fun id H=>K (.o (.c (.ptr id 0))) { s with H:=H }
 | .bsl T wd len zero parts=>mapF .val zero fun z=>fillF z parts s.env fun l=>pushF (.cells T l) s.H 0 fun id H=>K (.o (.c (.sli id wd 0 len len))) { s with H:=H }
 | .mks T wd bytes zero n c=>getI s.env n fun _ n=>getI s.env c fun _ c=>(0≤n∧n≤c∧c*bytes≤140737488355328∧c≤140737488355328∧0<wd)∧mapF .val zero fun z => ∃ (α:Type) (e:Enc α) (bs:List Nat) (x:α),(∀ y,(e.f bs y).length=wd)∧e.f bs x=z ∧
  pushF (.vec true T e bs wd (List.replicate n.toNat x)) s.H 0 fun id H=>K (.o (.c (.vec id n.toNat))) { s with H:=H }∨K (.o (.c (.sli id wd 0 n.toNat c.toNat))) { s with H:=H }
 | .apx T wd bytes x y => ∃ H1,Ghost w0 s.H H1∧appI w0 T wd bytes x y ⟨s.env,H1⟩ K
 | .app T wd bytes x y=>appI w0 T wd bytes x y s K
 | .cpy wd x y=>getC s.env x fun c=>getC s.env y fun d=>match c with
  | .vec b n=>(match s.H[b]? with
   | some (.vec wr T e bs wd' xs)=>chk (wr && Nat.beq wd' wd) (n=xs.length ∧ ∃ ys,src w0 s.H e bs wd' d ys∧ys.length≤n ∧
    setF b (.vec wr T e bs wd' (ys++xs.drop ys.length)) s.H fun H=>K (.o (.c (.val (.int .i64 ys.length)))) { s with H:=H })
   | _=>False)
  | .sli b wd1 o n _=>(match s.H[b]? with
   | some (.vec wr T e bs wd' xs)=>chk (wr && (Nat.beq wd' wd && Nat.beq wd1 wd)) (o+n≤xs.length∧cutC n d fun d' => ∃ ys,src w0 s.H e bs wd' d' ys ∧
    setF b (.vec wr T e bs wd' (xs.take o++(ys++xs.drop (o+ys.length)))) s.H fun H=>K (.o (.c (.val (.int .i64 ys.length)))) { s with H:=H })
   | some (.cells T cs)=>chk (Nat.beq wd1 wd) ((o+n)*wd1≤cs.length∧cutC n d fun d' => ∃ (α:Type) (e:Enc α) (bs:List Nat) (ys:List α),(∀ x,(e.f bs x).length=wd1)∧src w0 s.H e bs wd1 d' ys ∧
    setF b (.cells T (cs.take (o*wd1)++(flat e bs ys++cs.drop (o*wd1+ys.length*wd1)))) s.H fun H=>K (.o (.c (.val (.int .i64 ys.length)))) { s with H:=H })
   | _=>False)
  | _=>False
 | .s2b T x=>getS s.env x fun b=>b.size≤140737488355328∧pushF (.vec false T (encI .u8) [] 1 (bytesOf b)) s.H 0 fun id H=>K (.o (.c (.vec id (bytesOf b).length))) { s with H:=H }
 | .b2s x=>getC s.env x fun c=>notStr c ∧ ∃ l,src w0 s.H (encI .u8) [] 1 c l∧K (.o (.c (.val (.string (strOf l))))) s
def put (s:S) (d:Option Nat) (a:AV) (K:S→Prop):Prop :=
 match s,d with
 | ⟨e,H⟩,some d=>K ⟨(d,a)::e,H⟩
 | ⟨e,H⟩,none=>K ⟨e,H⟩
def evG (P:Program) (w0:World) (g:G) (s:S) (K:S→Prop):Prop :=
 match g.gd with
 | none=>evI P w0 g.i s fun a s'=>put s' g.dst a K
 | some (t,want)=>match look s.env t with
  | some (.o (.c (.kb b)))=>(match b,want with
   | true,true=>evI P w0 g.i s fun a s'=>put s' g.dst a K
   | false,false=>evI P w0 g.i s fun a s'=>put s' g.dst a K
   | true,false=>put s g.dst (.t []) K
   | false,true=>put s g.dst (.t []) K)
  | some (.o (.c (.val (.bool b))))=>(match want with
   | true=>brn b (evI P w0 g.i { s with env:=(t,.o (.c (.kb true)))::s.env } fun a s'=>put s' g.dst a K) (put { s with env:=(t,.o (.c (.kb false)))::s.env } g.dst (.t []) K)
   | false=>brn b (put { s with env:=(t,.o (.c (.kb true)))::s.env } g.dst (.t []) K) (evI P w0 g.i { s with env:=(t,.o (.c (.kb false)))::s.env } fun a s'=>put s' g.dst a K))
  | some (.t [])=>put s g.dst (.t []) K
  | _=>False
def evGs1 (P:Program) (w0:World) (g:G) (_:List G) (ih:S→(S→Prop)→Prop) (s:S) (K:S→Prop):Prop:=evG P w0 g s fun s'=>ih s' K
def evGs (P:Program) (w0:World) (l:List G):S→(S→Prop)→Prop:=List.rec (motive:=fun _=>S→(S→Prop)→Prop) (fun s K=>K s) (evGs1 P w0) l
theorem evGs_cons (P:Program) (w0:World) (g:G) (r:List G) (s:S) (K:S→Prop):evGs P w0 (g::r) s K=evG P w0 g s fun s'=>evGs P w0 r s' K:=rfl
inductive LdK where
 | ld (n:Option Nat)
 | str
def ldI:I→Option (X × LdK)
 | .ld x n=>some (x,.ld n)
 | .b2s x=>some (x,.str)
 | _=>none
def ldOf (g:G) (s s':S):Option (CV × LdK × A1) :=
 match ldI g.i,g.dst with
 | some (x,m),some d=>match x.get s.env,look s'.env d with
  | some (.o (.c (.val _))),_=>none
  | some (.o (.c c)),some (.o a)=>some (c,m,a)
  | _,_=>none
 | _,_=>none
def ldv (w0:World) (H:List Blk) (c:CV) (m:LdK) (k:A1→Prop):Prop:=match m with
 | .ld n=>ld1 w0 H c n k
 | .str=>notStr c ∧ ∃ l,src w0 H (encI .u8) [] 1 c l∧k (.c (.val (.string (strOf l))))
def chkL (w0:World) (H:List Blk):List Nat→List (Nat × CV × LdK × A1)→Prop
 | [],_=>True
 | i::r,L=>(match L.find? (fun p=>Nat.beq p.1 i) with
  | some (_,c,n,a)=>ldv w0 H c n fun b=>b=a∧a.sure=true
  | none=>True)∧chkL w0 H r L
def evD1 (P:Program) (w0:World) (d:DG) (_:List DG) (ih:List (Nat × CV × LdK × A1)→S→(S→Prop)→Prop) (L:List (Nat × CV × LdK × A1)) (s:S) (K:S→Prop):Prop :=
 match d with
 | ⟨g,n,true,_⟩=>evG P w0 g s fun s'=>match ldOf g s s' with | some l=>ih ((n,l)::L) s' K | none=>ih L s' K
 | ⟨g,_,false,l⟩=>evG P w0 g s fun s'=>chkL w0 s'.H l L∧ih L s' K
def evD (P:Program) (w0:World) (l:List DG):List (Nat × CV × LdK × A1)→S→(S→Prop)→Prop :=
 List.rec (motive:=fun _=>List (Nat × CV × LdK × A1)→S→(S→Prop)→Prop) (fun _ s K=>K s) (evD1 P w0) l
theorem evD_quiet (P:Program) (w0:World) (g:G) (n:Nat) (l:List Nat) (r:List DG) (L:List (Nat × CV × LdK × A1)) (s:S) (K:S→Prop) :
 evD P w0 (⟨g,n,true,l⟩::r) L s K=evG P w0 g s fun s'=>evD P w0 r (match ldOf g s s' with | some l=>(n,l)::L | none=>L) s' K:=by
 show (evG P w0 g s fun s'=>match ldOf g s s' with | some l=>evD P w0 r ((n,l)::L) s' K | none=>evD P w0 r L s' K)=_
 congr 1
 funext s'
 cases ldOf g s s' <;> rfl
theorem evD_loud (P:Program) (w0:World) (g:G) (n:Nat) (l:List Nat) (r:List DG) (L:List (Nat × CV × LdK × A1)) (s:S) (K:S→Prop) :
 evD P w0 (⟨g,n,false,l⟩::r) L s K=evG P w0 g s fun s'=>chkL w0 s'.H l L∧evD P w0 r L s' K:=rfl
def evT (P:Program) (w0:World) (t:DT):List (Nat × CV × LdK × A1)→S→(S→Prop)→Prop :=
 DT.rec (motive:=fun _=>List (Nat × CV × LdK × A1)→S→(S→Prop)→Prop) (fun _ s K=>K s)
  (fun g n _ ih L s K=>evG P w0 g s fun s'=>match ldOf g s s' with | some l=>ih ((n,l)::L) s' K | none=>ih L s' K)
  (fun g _ c _ ih L s K=>evG P w0 g s fun s'=>chkL w0 s'.H c L∧ih L s' K)
  (fun g _ c _ _ ih io L s K=>(evG P w0 g s fun s'=>chkL w0 s'.H c L∧ih L s' K)∧io L s K) t
def embH (σ:List Nat) (H:List Blk):List Blk→List Nat→Prop
 | [],[]=>True
 | .dead::r,i::is=>i<H.length∧embH σ H r is
 | b::r,i::is=>H[i]? = some (b.ren σ)∧(b.ren σ).live=true∧embH σ H r is
 | _,_=>False
def liveIds:List Blk→List Nat→List Nat
 | .dead::r,_::is=>liveIds r is
 | _::r,i::is=>i::liveIds r is
 | _,_=>[]
def nodupB:List Nat→Bool
 | []=>true
 | x::r => !(r.any (Nat.beq x)) && nodupB r
def embE (σ:List Nat) (e:Env):Env→Prop
 | []=>True
 | (t,a)::r=>look e t=some (a.ren σ)∧embE σ e r
def EmbH (m:Nat) (σ:List Nat) (H0 H:List Blk):Prop := σ.take m=List.range m∧embH σ H H0 σ ∧ nodupB (liveIds H0 σ)=true
def EmbS (m:Nat) (s0 s:S):Prop := ∃ σ,EmbH m σ s0.H s.H∧embE σ s.env s0.env
def Fin (m:Nat) (R:AV→List Blk→Prop) (r:AV) (H:List Blk):Prop :=
 R r H ∨ ∃ σ r0 H0,EmbH m σ H0 H∧r=r0.ren σ ∧ R r0 H0
abbrev Cond:=S→(Exit→S→Prop)→Prop
def evSkip:Cond:=fun s K=>K .normal s
def evReg (P:Program) (w0:World) (gs:List G):Cond:=fun s K=>evGs P w0 gs s (K .normal)
def evDrw (P:Program) (w0:World) (ds:List DG):Cond:=fun s K=>evD P w0 ds [] s (K .normal)
def evDrt (P:Program) (w0:World) (t:DT):Cond:=fun s K=>evT P w0 t [] s (K .normal)
def evThen (b:Cond) (K:Exit→S→Prop) (e:Exit) (s:S):Prop:=match e with
 | .normal=>b s K
 | .exit id=>K (.exit id) s
 | .goto l=>K (.goto l) s
 | .ret=>K .ret s
 | .panic c=>K (.panic c) s
 | .outgrown=>K .outgrown s
def evSeq (_ _:IC) (a b:Cond):Cond:=fun s K=>a s (evThen b K)
def evCut (m:Nat) (_ _:IC) (a b:Cond):Cond:=fun s K=>a s (evThen b K) ∨
 ∃ (ι:Type) (st:ι → S),(a s (evThen (fun s' _ => ∃ j,EmbS m (st j) s') K)) ∧ ∀ j,b (st j) K
def evIf (c:X) (_ _:IC) (a b:Cond):Cond:=fun s K=>getBr s.env c (a s K) (b s K)
def evOut (id:Nat) (K:Exit→S→Prop) (e:Exit) (s:S):Prop:=match e with
 | .exit id'=>bif Nat.beq id' id then K .normal s else K (.exit id') s
 | .normal=>K .normal s
 | .goto l=>K (.goto l) s
 | .ret=>K .ret s
 | .panic c=>K (.panic c) s
 | .outgrown=>K .outgrown s
def evBlock (id:Nat) (_:IC) (c:Cond):Cond:=fun s K=>c s (evOut id K)
def evLoop (m:Nat) (_:IC) (c:Cond):Cond:=fun s K => ∃ (ι:Type) (st:ι → S) (μ:ι → Nat),(∃ j,EmbS m (st j) s) ∧ ∀ j,c (st j) (evThen (fun s' _ => ∃ j',EmbS m (st j') s' ∧ μ j' < μ j) K)
def evExit (id:Nat):Cond:=fun s K=>K (.exit id) s
def evRet:Cond:=fun s K=>K .ret s
def evGoto (l:Nat):Cond:=fun s K=>K (.goto l) s
def evNog (K:Exit→S→Prop) (e:Exit) (s:S):Prop:=match e with
 | .normal=>K .normal s
 | .exit id=>K (.exit id) s
 | .goto _=>False
 | .ret=>K .ret s
 | .panic c=>K (.panic c) s
 | .outgrown=>K .outgrown s
def evJ (l:Nat) (b:Cond) (K:Exit→S→Prop) (e:Exit) (s:S):Prop:=match e with
 | .normal=>K .normal s
 | .exit id=>K (.exit id) s
 | .goto l'=>bif Nat.beq l' l then b s (evNog K) else False
 | .ret=>K .ret s
 | .panic c=>K (.panic c) s
 | .outgrown=>K .outgrown s
def evJmp (l:Nat) (_ _:IC) (a b:Cond):Cond:=fun s K=>a s (evJ l b K)
def evC (P:Program) (w0:World) (m:Nat) (c:IC):Cond :=
 IC.rec (motive:=fun _=>Cond) evSkip (evReg P w0) (evDrw P w0) (evDrt P w0) evSeq (evCut m) evIf evBlock (evLoop m) evExit evRet evGoto evJmp c
inductive IR where
 | t (n:Nat)
 | cell (a:Nat) (n:Option Nat)
structure IFn where
 code:IC
 np:Nat
 res:List IR
def resF (w0:World) (s:S):List IR→(List A1→Prop)→Prop
 | [],k=>k []
 | .t n::r,k=>get1 s.env (.t n) fun a=>resF w0 s r fun l=>k (a::l)
 | .cell a n::r,k=>getC s.env (.t a) fun c=>ld1 w0 s.H c n fun a=>resF w0 s r fun l=>k (a::l)
def resV:List A1→AV
 | [x] => .o x
 | l => .t l
def envF:Nat→List A1→(Env→Prop)→Prop
 | _,[],k=>k []
 | n,x::r,k=>envF (n+1) r fun e=>k ((n,.o x)::e)
def evEnd (w0:World) (m:Nat) (res:List IR) (R:AV→List Blk→Prop) (e:Exit) (s:S):Prop:=match e with
 | .normal=>resF w0 s res fun l=>Fin m R (resV l) s.H
 | .ret=>resF w0 s res fun l=>Fin m R (resV l) s.H
 | _=>False
def evF (P:Program) (w0:World) (F:IFn) (args:List A1) (H:List Blk) (R:AV→List Blk→Prop):Prop :=
 match F with
 | ⟨code,np,res⟩=>chk (Nat.beq args.length np) (envF 0 args fun e=>evC P w0 H.length code ⟨e,H⟩ (evEnd w0 H.length res R))
end Go.Vc
end
section
namespace Go.Vc
def compX:Operand→Option X
 | .tmp t=>some (.t t)
 | .const v=>if v.oneCell' then some (.k v) else none
 | .global g=>some (.k (.pointer (some ⟨g,0,none⟩)))
 | .func f=>some (.k (.func (.func f) #[] #[]))
def compXs:List Operand→Option (List X)
 | []=>some []
 | x::r=>match compX x,compXs r with
  | some y,some l=>some (y::l)
  | _,_=>none
def sizeT (P:Program) (t:TypeId):Option Nat:=(P.info? t).map (·.size)
def bytesT (P:Program) (t:TypeId):Option Nat:=(P.info? t).map (·.bytes)
def zeroT (P:Program) (t:TypeId):Option (List Value):=match (P.info? t).bind (·.zero) with
 | some z=>if z.cells.toList.all (·.oneCell') then some z.cells.toList else none
 | none=>none
def aggT (P:Program) (t:TypeId):Option (Option Nat):=match P.underlying t with
 | some (.struct _)=>(sizeT P t).map some
 | some (.array _ _)=>(sizeT P t).map some
 | some _=>some none
 | none=>none
def compParts (place:Nat→Option (Nat × Nat)):List (Nat × Operand)→Option (List (Nat × Nat × X))
 | []=>some []
 | (i,x)::r=>match place i,compX x,compParts place r with
  | some (o,n),some y,some l=>some ((o,n,y)::l)
  | _,_,_=>none
def placesOf (P:Program):List Field→Option (List (Nat × Nat))
 | []=>some []
 | f::r=>match sizeT P f.type,placesOf P r with
  | some n,some l=>some ((f.offset,n)::l)
  | _,_=>none
def optX:Option Operand→Option (Option X)
 | none=>some none
 | some x=>(compX x).map some
def srcT:TypeDesc→Bool
 | .slice _=>true
 | .string=>true
 | _=>false
def isSl (P:Program) (e:TypeId):Bool:=match P.underlying e with
 | some (.slice _)=>true
 | some (.struct fs)=>fs.toList.dropLast.any fun f=>match P.underlying f.type with
  | some (.slice _)=>true
  | _=>false
 | _=>false
def compCall (P:Program) (c:Call):Option I :=
 match c.callee with
 | .value (.func f)=>(match (P.funcs[f]?).map (·.body.isSome) with
  | some false=>(match c.args.toList with
   | [x]=>(compX x).map (.xcl f)
   | _=>none)
  | _=>(compXs c.args.toList).map (.call f))
 | .value (.tmp t)=>(compXs c.args.toList).map (.clc (.t t))
 | .invoke recv name=>match compX recv,compXs c.args.toList with
  | some x,some l=>some (.inv x name l)
  | _,_=>none
 | .builtin .clear=>match c.args.toList,c.argTypes.toList with
  | [x],[t]=>(match P.underlying t,compX x with
   | some (.slice e),some y=>(match sizeT P e,zeroT P e with
    | some wd,some z=>if z.length=wd then some (.clr wd z y) else none
    | _,_=>none)
   | _,_=>none)
  | _,_=>none
 | .builtin .len=>match c.args.toList,c.argTypes.toList with
  | [x],[t]=>(match P.underlying t with
   | some .string=>(compX x).map (.len true)
   | some (.slice _)=>(compX x).map (.len false)
   | _=>none)
  | _,_=>none
 | .builtin .cap=>match c.args.toList,c.argTypes.toList with
  | [x],[t]=>(match P.underlying t with
   | some (.slice _)=>(compX x).map .cap
   | _=>none)
  | _,_=>none
 | .builtin .min=>match compXs c.args.toList with
  | some (x::l)=>some (.mn x l)
  | _=>none
 | .builtin .max=>match compXs c.args.toList with
  | some (x::l)=>some (.mx x l)
  | _=>none
 | .builtin .append=>match c.args.toList,c.argTypes.toList with
  | [x,y],[t,u]=>(match P.underlying t,P.underlying u,compX x,compX y with
   | some (.slice e),some d,some x,some y=>if srcT d then (match sizeT P e,bytesT P e,zeroT P e with
    | some wd,some by',some z=>if z.length=wd then (if isSl P e then some (.apx e wd by' x y) else some (.app e wd by' x y)) else none
    | _,_,_=>none) else none
   | _,_,_,_=>none)
  | _,_=>none
 | .builtin .copy=>match c.args.toList,c.argTypes.toList with
  | [x,y],t::_=>(match P.underlying t,compX x,compX y with
   | some (.slice e),some x,some y=>(sizeT P e).map fun wd => .cpy wd x y
   | _,_,_=>none)
  | _,_=>none
 | _=>none
def compI (P:Program) (o:Oper):Option I :=
 match o.op with
 | .move x=>(compX x).map .mov
 | .assign x=>(compX x).map .mov
 | .nilCheck x=>(compX x).map .nil
 | .fieldAddr s x f=>match P.underlying s,compX x with
  | some (.struct fs),some y=>(match fs[f]? with
   | some fd=>(match sizeT P fd.type with
    | some n=>if n=0 then none else some (.ffa y fd.offset)
    | none=>none)
   | none=>none)
  | _,_=>none
 | .field t x f=>match P.underlying t,compX x with
  | some (.struct fs),some y=>(match fs[f]? with
   | some fd=>(aggT P fd.type).map fun n => .fld y fd.offset n
   | none=>none)
  | _,_=>none
 | .load t a=>match aggT P t,compX a with
  | some n,some y=>some (.ld y n)
  | _,_=>none
 | .store t a v=>match sizeT P t,compX a,compX v with
  | some n,some y,some z=>some (.st y z n)
  | _,_,_=>none
 | .pick c a b=>match compX c,compX a,compX b with
  | some c,some a,some b=>some (.pick c a b)
  | _,_,_=>none
 | .binOp op t x y _=>match P.underlying t,compX x,compX y with
  | some .bool,some x,some y=>(match op with
   | .eql=>some (.beq false x y)
   | .neq=>some (.beq true x y)
   | _=>none)
  | some (.interface _),some x,some (.k .nilIface)=>(match op with
   | .eql=>some (.inl false x)
   | .neq=>some (.inl true x)
   | _=>none)
  | some (.interface _),some x,some (.t y)=>(match op with
   | .eql=>some (.ieq t false x (.t y))
   | .neq=>some (.ieq t true x (.t y))
   | _=>none)
  | some (.pointer _),some x,some (.k (.pointer none))=>(match op with
   | .eql=>some (.pnl false x)
   | .neq=>some (.pnl true x)
   | _=>none)
  | some (.map _ _),some x,some (.k (.map none))=>(match op with
   | .eql=>some (.mnl false x)
   | .neq=>some (.mnl true x)
   | _=>none)
  | some _,some x,some y=>(match op,y with
   | .quo,.k (.int d (.ofNat (n+1)))=>some (.bik op d x (n+1))
   | .rem,.k (.int d (.ofNat (n+1)))=>some (.bik op d x (n+1))
   | .shl,.k (.int d (.ofNat n))=>some (.bik op d x n)
   | .shr,.k (.int d (.ofNat n))=>some (.bik op d x n)
   | _,_=>some (.bin op x y))
  | _,_,_=>none
 | .unOp op _ x=>(compX x).map (.un op)
 | .convert src dst x=>match P.underlying src,P.underlying dst,compX x with
  | some (.int _),some (.int k),some y=>some (.cvi k y)
  | some (.int _),some (.float k),some y=>some (.cvf k y)
  | some (.float _),some (.float k),some y=>some (.cvf k y)
  | some (.float _),some (.int k),some y=>some (.cfi k y)
  | some .string,some (.slice e),some y=>(match P.underlying e with
   | some (.int .u8)=>some (.s2b e y)
   | _=>none)
  | some (.slice e),some .string,some y=>(match P.underlying e with
   | some (.int .u8)=>some (.b2s y)
   | _=>none)
  | some .string,some .string,some y=>some (.cps y)
  | _,_,_=>none
 | .indexAddr t x i=>match P.underlying t,compX x,compX i with
  | some (.slice e),some y,some z=>(sizeT P e).map fun wd => .ia y z wd
  | some (.array n e),some y,some z=>(sizeT P e).map fun wd => .iaa y z wd n
  | _,_,_=>none
 | .index t x i=>match P.underlying t,compX x,compX i with
  | some .string,some y,some z=>some (.si y z)
  | some (.array len e),some y,some z=>(match aggT P e,sizeT P e with
   | some none,some 1=>some (.ixa y z len)
   | _,_=>none)
  | _,_,_=>none
 | .slice t x lo hi none=>match P.underlying t,compX x,optX lo,optX hi with
  | some (.slice e),some y,some l,some h=>(sizeT P e).map fun wd=>match l with | none => .slc y l h wd | some _ => .slq y l h wd
  | some .string,some y,some l,some h=>some (.sls y l h)
  | some (.array n e),some y,some l,some h=>(sizeT P e).map fun wd=>match l with | none => .sll y h wd n | some _ => .sla y l h wd n
  | _,_,_,_=>none
 | .makeInterface t x=>match P.underlying t,compX x with
  | some (.interface _),_=>none
  | some _,some y=>some (.mki t y)
  | _,_=>none
 | .makeFunc (.func g) first caps=>if first.size=0 then (compXs caps.toList).map (.mkf g) else (match first.toList,caps.toList with
  | [x],[]=>(compX x).map (.mkg g)
  | _,_=>none)
 | .makeFunc (.method name) first caps=>match first.toList,caps.toList with
  | [x],[]=>(compX x).map (.mkm name)
  | _,_=>none
 | .extract x i=>(compX x).map fun y => .ext y i
 | .call c=>compCall P c
 | .alloc t=>match P.underlying t with
  | some (.array _ _)=>(zeroT P t).map (.ala t)
  | _=>(zeroT P t).map (.alc t)
 | .box t x=>(compX x).map (.box t)
 | .build t ps=>match P.underlying t,zeroT P t with
  | some (.struct fs),some z=>(match placesOf P fs.toList with
   | some pl=>(compParts (pl[·]?) ps.toList).map (.bld z)
   | none=>none)
  | some (.array _ e),some z=>(match sizeT P e with
   | some n=>(compParts (fun i=>some (i*n,n)) ps.toList).map (.bld z)
   | none=>none)
  | _,_=>none
 | .buildSlice t len ps=>match P.underlying t with
  | some (.slice e)=>(match sizeT P e,zeroT P e with
   | some n,some z=>if n=0∨z.length≠n∨len=0∨len*n>16777216 then (if len=0∧ps.toList=[]∧0<n then some (.bs0 e n) else none) else (compParts (fun i=>some (i*n,n)) ps.toList).map (.bsl e n len ((List.replicate len z).flatten))
   | _,_=>none)
  | _=>none
 | .makeSlice t l c=>match P.underlying t,compX l,compX c with
  | some (.slice e),some x,some y=>(match sizeT P e,bytesT P e,zeroT P e with
   | some wd,some by',some z=>if z.length=wd then some (.mks e wd by' z x y) else none
   | _,_,_=>none)
  | _,_,_=>none
 | _=>none
def I.quiet:I→Bool
 | .sll .. | .ala .. | .bad | .clr .. | .slc .. | .st .. | .call .. | .xcl .. | .alc .. | .box .. | .bsl .. | .bs0 .. | .mks .. | .app .. | .apx .. | .clc .. | .inv .. | .ieq .. | .cpy .. | .s2b .. => false
 | _=>true
def I.isLd:I→Bool
 | .ld .. => true
 | .b2s .. => true
 | _=>false
def dstOk (N:Nat):Option Nat→Bool
 | some d=>Nat.blt d N
 | none=>true
def compG (P:Program) (N:Nat) (ops:Array Oper) (o:Oper):Option G :=
 match compI P o with
 | none=>none
 | some i =>
  if dstOk N o.dst then
   match o.guard with
   | none=>some ⟨o.dst,none,i⟩
   | some (j,want)=>(match (ops[j]?).bind (·.dst) with
    | some t=>some ⟨o.dst,some (t,want),i⟩
    | none=>none)
  else none
def compGs (P:Program) (N:Nat) (ops:Array Oper):List Oper→Option (List G)
 | []=>some []
 | o::r=>match compG P N ops o,compGs P N ops r with
  | some g,some l=>some (g::l)
  | _,_=>none
def quietAt (P:Program) (N:Nat) (ops:Array Oper) (listed:Array Bool) (i:Nat):Bool :=
 (match (ops[i]?).bind (compG P N ops) with | some g=>g.i.quiet && (!g.i.isLd || g.dst.isSome) | none=>false) && Region.free .any ops listed i
def planD (P:Program) (N:Nat) (ops:Array Oper):Nat→Array Bool→List Nat→Option (List DG)
 | 0,listed,_=>if Region.ready .any ops listed=[] then some [] else none
 | n+1,listed,tk =>
  match (Region.ready .any ops listed).find? (quietAt P N ops listed) with
  | some i=>(match (ops[i]?).bind (compG P N ops) with
   | some g=>(planD P N ops n (listed.setIfInBounds i true) (if g.i.isLd then i::tk else tk)).map (⟨g,i,true,[]⟩ :: ·)
   | none=>none)
  | none=>(match Region.ready .any ops listed with
   | []=>some []
   | [j]=>(match (ops[j]?).bind (compG P N ops) with
    | some g=>let tk':=tk.filter fun i => !waitsN .any ops ops.size j i
     (planD P N ops n (listed.setIfInBounds j true) tk').map (⟨g,j,false,tk'⟩ :: ·)
    | none=>none)
   | _=>none)
def altsT (f:Nat→Option (G × Nat × List Nat × DT)):List Nat→Option DT
 | []=>some .stop
 | j::js=>match js with
  | []=>(f j).map fun x => .l x.1 x.2.1 x.2.2.1 x.2.2.2
  | _::_=>match f j,altsT f js with
   | some x,some o=>some (.alt x.1 x.2.1 x.2.2.1 x.2.2.2 o)
   | _,_=>none
def planT (P:Program) (N:Nat) (ops:Array Oper):Nat→Array Bool→List Nat→Option DT
 | 0,listed,_=>if Region.ready .any ops listed=[] then some .stop else none
 | n+1,listed,tk =>
  match (Region.ready .any ops listed).find? (quietAt P N ops listed) with
  | some i=>(match (ops[i]?).bind (compG P N ops) with
   | some g=>(planT P N ops n (listed.setIfInBounds i true) (if g.i.isLd then i::tk else tk)).map (.q g i ·)
   | none=>none)
  | none=>altsT (fun j=>match (ops[j]?).bind (compG P N ops) with
   | some g=>(planT P N ops n (listed.setIfInBounds j true) (tk.filter fun i => !waitsN .any ops ops.size j i)).map fun r=>(g,j,tk.filter (fun i => !waitsN .any ops ops.size j i),r)
   | none=>none) (Region.ready .any ops listed)
def compReg (P:Program) (N:Nat) (ops:Array Oper) (draw:Bool):Option IC :=
 if draw then
  if P.follows .mixedOrders && Region.noSelect ops then (match planD P N ops ops.size (Array.replicate ops.size false) [] with | some ds=>some (.drw ds) | none=>(planT P N ops ops.size (Array.replicate ops.size false) []).map .drt) else none
 else (compGs P N ops ops.toList).map .reg
def IC.forks:IC→Bool
 | .seq a b=>a.forks || b.forks
 | .cut a b=>a.forks || b.forks
 | .drt _=>true
 | .cond .. => true
 | .block _ c=>c.forks
 | .loop _=>true
 | .jmp .. => true
 | _=>false
def IC.guard:IC→Bool
 | .cond _ .skip (.exit _)=>true
 | .cond _ _ .ret=>true
 | .seq _ b=>b.guard
 | .cut _ b=>b.guard
 | _=>false
def compC (P:Program) (N:Nat):Code→Option IC
 | .skip=>some .skip
 | .region _ ops draw=>compReg P N ops draw
 | .seq a b=>match compC P N a,compC P N b with
  | some x,some y=>some (if x.forks && !x.guard then .cut x y else .seq x y)
  | _,_=>none
 | .cond c a b=>match compX c,compC P N a,compC P N b with
  | some t,some x,some y=>some (.cond t x y)
  | _,_,_=>none
 | .block id c=>(compC P N c).map (.block id)
 | .loop c=>(compC P N c).map .loop
 | .exit id=>some (.exit id)
 | .ret=>some .ret
 | .label _=>some .skip
 | .goto l=>some (.goto l)
 | _=>none
def labelOf:Code→Option Nat
 | .label l=>some l
 | .seq a b=>match labelOf a with | some l=>some l | none=>labelOf b
 | _=>none
def compB (P:Program) (N:Nat):Code→Option IC
 | .scope c=>match labelOf c with
  | some l=>(match findLabel c l with
   | some r=>(match compC P N c,compC P N r with
    | some x,some y=>some (.jmp l x y)
    | _,_=>none)
   | none=>none)
  | none=>none
 | c=>compC P N c
def compRes (P:Program):List ResultVar→Option (List IR)
 | []=>some []
 | .tmp t::r=>(compRes P r).map (.t t :: ·)
 | .cell a t::r=>match aggT P t,compRes P r with
  | some n,some l=>some (.cell a n::l)
  | _,_=>none
def compF (P:Program) (f:FuncId):Option IFn :=
 match P.funcs[f]? with
 | none=>none
 | some fn=>match fn.body with
  | none=>none
  | some c=>if fn.name == "runtime.NumGoroutine" then none else
   match compB P fn.ntmps c,compRes P fn.results.toList with
   | some ic,some rs=>if fn.params.size+fn.nfree≤fn.ntmps then some ⟨ic,fn.params.size+fn.nfree,rs⟩ else none
   | _,_=>none
end Go.Vc
end
section
namespace Go.Vc
open Go.RowKit (Below)
namespace All2
variable {α β γ:Type} {R R':α → β → Prop}
theorem mono (h:∀ a b,R a b→R' a b) {l m} (hl:All2 R l m):All2 R' l m:=by
 induction hl with
 | nil=>exact .nil
 | cons ha _ ih=>exact .cons (h _ _ ha) ih
theorem length {l m} (h:All2 R l m):l.length=m.length:=by
 induction h with
 | nil=>rfl
 | cons _ _ ih=>simp [ih]
theorem append {l m l' m'} (h:All2 R l m) (h':All2 R l' m'):All2 R (l++l') (m++m'):=by
 induction h with
 | nil=>exact h'
 | cons ha _ ih=>exact .cons ha ih
theorem at_ {l m} (h:All2 R l m):∀ (i:Nat) a,l[i]? = some a → ∃ b,m[i]? = some b∧R a b:=by
 induction h with
 | nil=>intro i a h; simp at h
 | cons ha _ ih =>
  intro i a h
  cases i with
  | zero=>simp at h; subst h; exact ⟨_,rfl,ha⟩
  | succ i=>simpa using ih i a (by simpa using h)
theorem map_left {f:γ → α} {l m} (h:All2 (fun c b=>R (f c) b) l m):All2 R (l.map f) m:=by
 induction h with
 | nil=>exact .nil
 | cons ha _ ih=>exact .cons ha ih
theorem of_map_left {f:γ → α} {l:List γ} {m} (h:All2 R (l.map f) m):All2 (fun c b=>R (f c) b) l m:=by
 induction l generalizing m with
 | nil=>cases h; exact .nil
 | cons c l ih=>cases h with | cons ha hr=>exact .cons ha (ih hr)
theorem split_ {l l':List α} {m:List β} (h:All2 R (l++l') m):∃ m1 m2,m=m1++m2∧All2 R l m1∧All2 R l' m2:=by
 induction l generalizing m with
 | nil=>exact ⟨[],m,rfl,.nil,h⟩
 | cons c l ih =>
  cases h with
  | cons ha hr =>
   obtain ⟨m1,m2,rfl,h1,h2⟩:=ih hr
   exact ⟨_::m1,m2,rfl,.cons ha h1,h2⟩
theorem drop_ {l m} (h:All2 R l m) (n:Nat):All2 R (l.drop n) (m.drop n):=by
 induction h generalizing n with
 | nil=>cases n <;> exact .nil
 | cons ha hl ih =>
  cases n with
  | zero=>exact .cons ha hl
  | succ n=>exact ih n
theorem take_ {l m} (h:All2 R l m) (n:Nat):All2 R (l.take n) (m.take n):=by
 induction h generalizing n with
 | nil=>cases n <;> exact .nil
 | cons ha hl ih =>
  cases n with
  | zero=>exact .nil
  | succ n=>exact .cons ha (ih n)
end All2
theorem Ren.at_append {ρ t:Ren} {b:Nat} {g:Nat} (h:ρ.at b=some g):Ren.at (ρ ++ t) b=some g:=by
 unfold Ren.at at *
 cases hb:ρ[b]? with
 | none=>rw [hb] at h; cases h
 | some e =>
  rw [hb] at h
  rw [List.getElem?_append_left (List.getElem?_eq_some_iff.1 hb).1,hb]
  exact h
theorem getElem?_app {α:Type} {l t:List α} {b:Nat} {e:α} (h:l[b]? = some e):(l++t)[b]? = some e:=by
 rw [List.getElem?_append_left (List.getElem?_eq_some_iff.1 h).1,h]
theorem CV.R.more {ρ:Ren} (t:Ren) {c:CV} {v:Value} (h:c.R ρ v):c.R (ρ ++ t) v:=by
 cases c <;> simp only [CV.R] at h ⊢
 case vec b n =>
  obtain ⟨e,he,h⟩:=h
  exact ⟨e,getElem?_app he,h⟩
 case clo g caps =>
  obtain ⟨vs,hv,h⟩:=h
  exact ⟨vs,hv,h.mono fun a b ⟨x,hx,hb⟩=>⟨x,Ren.at_append hx,hb⟩⟩
 case mem b j n =>
  obtain ⟨e,ms,m,he,h⟩:=h
  exact ⟨e,ms,m,getElem?_app he,h⟩
 case mrow b j wd i o =>
  obtain ⟨e,ms,m,g,he,h⟩:=h
  exact ⟨e,ms,m,g,getElem?_app he,h⟩
 case tl b wd o n p =>
  obtain ⟨e,he,h⟩:=h
  exact ⟨e,getElem?_app he,h⟩
 all_goals first
  | exact h
  | (obtain ⟨g,hg,h⟩:=h; exact ⟨g,Ren.at_append hg,h⟩)
theorem A1.R.more {ρ:Ren} (t:Ren) {c:A1} {v:Value} (h:c.R ρ v):c.R (ρ ++ t) v:=by
 cases c with
 | c x=>exact CV.R.more t h
 | a xs=>obtain ⟨ys,hv,h⟩:=h; exact ⟨ys,hv,h.mono fun _ _=>CV.R.more t⟩
theorem AV.R.more {ρ:Ren} (t:Ren) {c:AV} {v:Value} (h:c.R ρ v):c.R (ρ ++ t) v:=by
 cases c with
 | o x=>exact A1.R.more t h
 | t xs=>obtain ⟨ys,hv,h⟩:=h; exact ⟨ys,hv,h.mono fun _ _=>A1.R.more t⟩
theorem CV.R.norm {ρ:Ren} {c:CV} {v:Value} (h:c.R ρ v):c.norm.R ρ v:=by
 cases c <;> first | exact h | (simp only [CV.R] at h; subst h; exact ⟨rfl,rfl⟩)
theorem A1.R.norm {ρ:Ren} {c:A1} {v:Value} (h:c.R ρ v):c.norm.R ρ v:=by
 cases c with
 | c x=>exact CV.R.norm h
 | a xs=>exact h
theorem CV.R.one {ρ:Ren} {c:CV} {v:Value} (h:c.R ρ v):v.oneCell'=true:=by
 cases c <;> simp only [CV.R] at h
 case val x=>obtain ⟨rfl,h⟩:=h; exact h
 case ptr=>obtain ⟨_,_,rfl⟩:=h; rfl
 case row=>obtain ⟨_,_,rfl⟩:=h; rfl
 case sli=>obtain ⟨_,_,rfl,_⟩:=h; rfl
 case vec=>obtain ⟨_,_,h⟩:=h; rcases h with ⟨_,_,rfl,_⟩ | ⟨_,_,rfl⟩ <;> rfl
 case clo=>obtain ⟨_,rfl,_⟩:=h; rfl
 case ifc=>obtain ⟨_,_,rfl⟩:=h; rfl
 case bnd=>obtain ⟨_,_,rfl⟩:=h; rfl
 case bnf=>obtain ⟨_,_,rfl⟩:=h; rfl
 case kb=>subst h; rfl
 case any=>exact h
 case mem=>obtain ⟨_,_,_,_,_,_,h⟩:=h; rcases h with ⟨_,_,rfl,_⟩ | ⟨_,_,rfl⟩ <;> rfl
 case mrow=>obtain ⟨_,_,_,_,_,_,_,_,rfl⟩:=h; rfl
 case tl=>obtain ⟨_,_,h⟩:=h; rcases h with ⟨_,_,rfl,_⟩ | ⟨_,_,_,rfl⟩ <;> rfl
theorem CV.R.same {ρ:Ren} {c:CV} {v u:Value} (hs:c.sure=true) (h:c.R ρ v) (k:c.R ρ u):v=u:=by
 cases c <;> simp only [CV.R] at h k
 case val x=>rw [h.1,k.1]
 case ptr=>obtain ⟨g,hg,rfl⟩:=h; obtain ⟨g',hg',rfl⟩:=k; rw [hg] at hg'; cases hg'; rfl
 case row=>obtain ⟨g,hg,rfl⟩:=h; obtain ⟨g',hg',rfl⟩:=k; rw [hg] at hg'; cases hg'; rfl
 case sli=>obtain ⟨g,hg,rfl,_⟩:=h; obtain ⟨g',hg',rfl,_⟩:=k; rw [hg] at hg'; cases hg'; rfl
 case ifc=>obtain ⟨g,hg,rfl⟩:=h; obtain ⟨g',hg',rfl⟩:=k; rw [hg] at hg'; cases hg'; rfl
 case bnd=>obtain ⟨g,hg,rfl⟩:=h; obtain ⟨g',hg',rfl⟩:=k; rw [hg] at hg'; cases hg'; rfl
 case bnf=>obtain ⟨g,hg,rfl⟩:=h; obtain ⟨g',hg',rfl⟩:=k; rw [hg] at hg'; cases hg'; rfl
 case vec =>
  obtain ⟨e,he,h⟩:=h
  obtain ⟨e',he',k⟩:=k
  rw [he] at he'
  cases he'
  rcases h with ⟨g,hg,rfl,_⟩ | ⟨hg,_,rfl⟩ <;> rcases k with ⟨g',hg',rfl,_⟩ | ⟨hg',_,rfl⟩
  ·rw [hg] at hg'; cases hg'; rfl
  ·rw [hg] at hg'; cases hg'
  ·rw [hg] at hg'; cases hg'
  rfl
 case clo g caps =>
  obtain ⟨vs,rfl,h⟩:=h
  obtain ⟨us,rfl,k⟩:=k
  congr 1
  apply Array.toList_inj.1
  clear hs
  generalize vs.toList=l at h
  generalize us.toList=m at k
  induction h generalizing m with
  | nil=>cases k; rfl
  | cons ha _ ih =>
   cases k with
   | cons hb hk =>
    obtain ⟨x,hx,rfl⟩:=ha
    obtain ⟨y,hy,rfl⟩:=hb
    rw [hx] at hy
    cases hy
    rw [ih _ hk]
 case tl =>
  obtain ⟨e,he,h⟩:=h
  obtain ⟨e',he',k⟩:=k
  rw [he] at he'
  cases he'
  rcases h with ⟨g,hg,rfl,_⟩ | ⟨hg,_,_,rfl⟩ <;> rcases k with ⟨g',hg',rfl,_⟩ | ⟨hg',_,_,rfl⟩
  ·rw [hg] at hg'; cases hg'; rfl
  ·rw [hg] at hg'; cases hg'
  ·rw [hg] at hg'; cases hg'
  rfl
 case kb=>rw [h,k]
 case any=>simp [CV.sure] at hs
 case mem b j n =>
  obtain ⟨e,ms,m,he,hm,hj,h⟩:=h
  obtain ⟨e',ms',m',he',hm',hj',k⟩:=k
  rw [he] at he'
  cases he'
  have:=encM_inj (hm.trans hm'.symm)
  subst this
  rw [hj] at hj'
  cases hj'
  rcases h with ⟨g,hg,rfl,_⟩ | ⟨hg,_,rfl⟩ <;> rcases k with ⟨g',hg',rfl,_⟩ | ⟨hg',_,rfl⟩
  ·rw [hg] at hg'; cases hg'; rfl
  ·rw [hg] at hg'; cases hg'
  ·rw [hg] at hg'; cases hg'
  rfl
 case mrow b j wd i o =>
  obtain ⟨e,ms,m,g,he,hm,hj,hg,rfl⟩:=h
  obtain ⟨e',ms',m',g',he',hm',hj',hg',rfl⟩:=k
  rw [he] at he'
  cases he'
  have:=encM_inj (hm.trans hm'.symm)
  subst this
  rw [hj] at hj'
  cases hj'
  rw [hg] at hg'
  cases hg'
  rfl
def Ren.sub (ρ:Ren) (σ:List Nat):Ren := σ.map fun i => ρ.getD i (none,0)
theorem Ren.sub_get {ρ:Ren} {σ:List Nat} {b i:Nat} (h:σ[b]? = some i):(ρ.sub σ)[b]? = some (ρ.getD i (none,0)):=by
 simp [Ren.sub,h]
theorem Ren.sub_own {ρ:Ren} {σ:List Nat} {b i:Nat} (hi:i < ρ.length) (h:σ[b]? = some i):(ρ.sub σ).own b = ρ.own i:=by
 unfold Ren.own
 rw [Ren.sub_get h,List.getD_eq_getElem?_getD,List.getElem?_eq_getElem hi]
 rfl
theorem Ren.sub_at {ρ:Ren} {σ:List Nat} {b i:Nat} (h:σ[b]? = some i):(ρ.sub σ).at b = ρ.at i:=by
 unfold Ren.at
 rw [Ren.sub_get h]
 cases hi:ρ[i]? with
 | none=>simp [List.getD_eq_getElem?_getD,hi]
 | some e=>simp [List.getD_eq_getElem?_getD,hi]
theorem Ren.sub_at' {ρ:Ren} {σ:List Nat} {b g:Nat} (h:(ρ.sub σ).at b=some g):∃ i,σ[b]? = some i ∧ ρ.at i=some g:=by
 cases hb:σ[b]? with
 | none=>simp [Ren.at,Ren.sub,hb] at h
 | some i=>exact ⟨i,rfl,by rw [← Ren.sub_at hb]; exact h⟩
theorem renC_R {ρ:Ren} {σ:List Nat}:∀ (caps l:List (Nat × Nat)) (vs:List Value),renC σ caps=some l →
 All2 (fun (c:Nat × Nat) v => ∃ h,ρ.at c.1=some h∧v=Value.pointer (some ⟨h,c.2,none⟩)) l vs →
 All2 (fun (c:Nat × Nat) v => ∃ h,(ρ.sub σ).at c.1=some h∧v=Value.pointer (some ⟨h,c.2,none⟩)) caps vs
 | [],l,vs,h,k=>by simp [renC] at h; subst h; cases k; exact .nil
 | (b,o)::r,l,vs,h,k=>by
  simp only [renC] at h
  cases hb:σ[b]? with
  | none=>simp [hb] at h
  | some i =>
   cases hr:renC σ r with
   | none=>simp [hb,hr] at h
   | some l' =>
    simp only [hb,hr,Option.some.injEq] at h
    subst h
    cases k with
    | cons ha hk =>
     obtain ⟨x,hx,rfl⟩:=ha
     exact .cons ⟨x,by rw [Ren.sub_at hb]; exact hx,rfl⟩ (renC_R r l' _ hr hk)
theorem CV.R.of_ren {ρ:Ren} {σ:List Nat} {c:CV} {v:Value} (h:(c.ren σ).R ρ v):c.R (ρ.sub σ) v:=by
 cases c with
 | val x=>exact h
 | kb b=>exact h
 | any=>exact h
 | bad=>exact h
 | ptr b o =>
  simp only [CV.ren] at h
  cases hb:σ[b]? with
  | none=>simp [hb,CV.R] at h
  | some i=>simp only [hb,CV.R] at h ⊢; rw [Ren.sub_at hb]; exact h
 | row b wd k j =>
  simp only [CV.ren] at h
  cases hb:σ[b]? with
  | none=>simp [hb,CV.R] at h
  | some i=>simp only [hb,CV.R] at h ⊢; rw [Ren.sub_at hb]; exact h
 | sli b wd o n c =>
  simp only [CV.ren] at h
  cases hb:σ[b]? with
  | none=>simp [hb,CV.R] at h
  | some i=>simp only [hb,CV.R] at h ⊢; rw [Ren.sub_at hb]; exact h
 | ifc t b o =>
  simp only [CV.ren] at h
  cases hb:σ[b]? with
  | none=>simp [hb,CV.R] at h
  | some i=>simp only [hb,CV.R] at h ⊢; rw [Ren.sub_at hb]; exact h
 | bnd name t b o =>
  simp only [CV.ren] at h
  cases hb:σ[b]? with
  | none=>simp [hb,CV.R] at h
  | some i=>simp only [hb,CV.R] at h ⊢; rw [Ren.sub_at hb]; exact h
 | bnf f b o =>
  simp only [CV.ren] at h
  cases hb:σ[b]? with
  | none=>simp [hb,CV.R] at h
  | some i=>simp only [hb,CV.R] at h ⊢; rw [Ren.sub_at hb]; exact h
 | vec b n =>
  simp only [CV.ren] at h
  cases hb:σ[b]? with
  | none=>simp [hb,CV.R] at h
  | some i =>
   simp only [hb,CV.R] at h ⊢
   obtain ⟨e,he,h⟩:=h
   refine ⟨e,?_,h⟩
   rw [Ren.sub_get hb,List.getD_eq_getElem?_getD,he]
   rfl
 | tl b wd k n p =>
  simp only [CV.ren] at h
  cases hb:σ[b]? with
  | none=>simp [hb,CV.R] at h
  | some i =>
   simp only [hb,CV.R] at h ⊢
   obtain ⟨e,he,h⟩:=h
   refine ⟨e,?_,h⟩
   rw [Ren.sub_get hb,List.getD_eq_getElem?_getD,he]
   rfl
 | clo g caps =>
  simp only [CV.ren] at h
  cases hc:renC σ caps with
  | none=>simp [hc,CV.R] at h
  | some l =>
   simp only [hc,CV.R] at h ⊢
   obtain ⟨vs,hv,h⟩:=h
   exact ⟨vs,hv,renC_R _ _ _ hc h⟩
 | mem b j n =>
  simp only [CV.ren] at h
  cases hb:σ[b]? with
  | none=>simp [hb,CV.R] at h
  | some i =>
   simp only [hb,CV.R] at h ⊢
   obtain ⟨e,ms,m,he,h⟩:=h
   refine ⟨e,ms,m,?_,h⟩
   rw [Ren.sub_get hb,List.getD_eq_getElem?_getD,he]
   rfl
 | mrow b j wd k o =>
  simp only [CV.ren] at h
  cases hb:σ[b]? with
  | none=>simp [hb,CV.R] at h
  | some i =>
   simp only [hb,CV.R] at h ⊢
   obtain ⟨e,ms,m,g,he,h⟩:=h
   refine ⟨e,ms,m,g,?_,h⟩
   rw [Ren.sub_get hb,List.getD_eq_getElem?_getD,he]
   rfl
theorem A1.R.of_ren {ρ:Ren} {σ:List Nat} {c:A1} {v:Value} (h:(c.ren σ).R ρ v):c.R (ρ.sub σ) v:=by
 cases c with
 | c x=>exact CV.R.of_ren h
 | a xs=>obtain ⟨ys,hv,h⟩:=h; exact ⟨ys,hv,h.of_map_left.mono fun _ _=>CV.R.of_ren⟩
theorem AV.R.of_ren {ρ:Ren} {σ:List Nat} {c:AV} {v:Value} (h:(c.ren σ).R ρ v):c.R (ρ.sub σ) v:=by
 cases c with
 | o x=>exact A1.R.of_ren h
 | t xs=>obtain ⟨ys,hv,h⟩:=h; exact ⟨ys,hv,h.of_map_left.mono fun _ _=>A1.R.of_ren⟩
theorem renC_R' {ρ:Ren} {σ:List Nat}:∀ (caps:List (Nat × Nat)) (vs:List Value),
 All2 (fun (c:Nat × Nat) v => ∃ h,(ρ.sub σ).at c.1=some h∧v=Value.pointer (some ⟨h,c.2,none⟩)) caps vs →
 ∃ l,renC σ caps=some l∧All2 (fun (c:Nat × Nat) v => ∃ h,ρ.at c.1=some h∧v=Value.pointer (some ⟨h,c.2,none⟩)) l vs
 | [],vs,k=>by cases k; exact ⟨[],rfl,.nil⟩
 | (b,o)::r,vs,k=>by
  cases k with
  | cons ha hk =>
   obtain ⟨x,hx,rfl⟩:=ha
   obtain ⟨i,hi,hx⟩:=Ren.sub_at' hx
   obtain ⟨l,hl,hr⟩:=renC_R' r _ hk
   exact ⟨(i,o)::l,by simp [renC,hi,hl],.cons ⟨x,hx,rfl⟩ hr⟩
theorem CV.R.ren {ρ:Ren} {σ:List Nat} (hσ:∀ i ∈ σ,i < ρ.length) {c:CV} {v:Value} (h:c.R (ρ.sub σ) v):(c.ren σ).R ρ v:=by
 cases c with
 | val x=>exact h
 | kb b=>exact h
 | any=>exact h
 | bad=>exact h
 | ptr b o=>obtain ⟨g,hg,h⟩:=h; obtain ⟨i,hi,hg⟩:=Ren.sub_at' hg; simp only [CV.ren,hi]; exact ⟨g,hg,h⟩
 | row b wd k j=>obtain ⟨g,hg,h⟩:=h; obtain ⟨i,hi,hg⟩:=Ren.sub_at' hg; simp only [CV.ren,hi]; exact ⟨g,hg,h⟩
 | sli b wd o n c=>obtain ⟨g,hg,h⟩:=h; obtain ⟨i,hi,hg⟩:=Ren.sub_at' hg; simp only [CV.ren,hi]; exact ⟨g,hg,h⟩
 | ifc t b o=>obtain ⟨g,hg,h⟩:=h; obtain ⟨i,hi,hg⟩:=Ren.sub_at' hg; simp only [CV.ren,hi]; exact ⟨g,hg,h⟩
 | bnd name t b o=>obtain ⟨g,hg,h⟩:=h; obtain ⟨i,hi,hg⟩:=Ren.sub_at' hg; simp only [CV.ren,hi]; exact ⟨g,hg,h⟩
 | bnf f b o=>obtain ⟨g,hg,h⟩:=h; obtain ⟨i,hi,hg⟩:=Ren.sub_at' hg; simp only [CV.ren,hi]; exact ⟨g,hg,h⟩
 | vec b n =>
  obtain ⟨e,he,h⟩:=h
  cases hb:σ[b]? with
  | none=>simp [Ren.sub,hb] at he
  | some i =>
   rw [Ren.sub_get hb] at he
   simp only [Option.some.injEq] at he
   simp only [CV.ren,hb]
   refine ⟨e,?_,h⟩
   have hl:=hσ i (List.mem_of_getElem? hb)
   rw [← he,List.getD_eq_getElem?_getD,List.getElem?_eq_getElem hl]
   rfl
 | tl b wd k n p =>
  obtain ⟨e,he,h⟩:=h
  cases hb:σ[b]? with
  | none=>simp [Ren.sub,hb] at he
  | some i =>
   rw [Ren.sub_get hb] at he
   simp only [Option.some.injEq] at he
   simp only [CV.ren,hb]
   refine ⟨e,?_,h⟩
   have hl:=hσ i (List.mem_of_getElem? hb)
   rw [← he,List.getD_eq_getElem?_getD,List.getElem?_eq_getElem hl]
   rfl
 | clo g caps =>
  obtain ⟨vs,hv,h⟩:=h
  obtain ⟨l,hl,h⟩:=renC_R' _ _ h
  simp only [CV.ren,hl]
  exact ⟨vs,hv,h⟩
 | mem b j n =>
  obtain ⟨e,ms,m,he,h⟩:=h
  cases hb:σ[b]? with
  | none=>simp [Ren.sub,hb] at he
  | some i =>
   rw [Ren.sub_get hb] at he
   simp only [Option.some.injEq] at he
   simp only [CV.ren,hb]
   refine ⟨e,ms,m,?_,h⟩
   have hl:=hσ i (List.mem_of_getElem? hb)
   rw [← he,List.getD_eq_getElem?_getD,List.getElem?_eq_getElem hl]
   rfl
 | mrow b j wd k o =>
  obtain ⟨e,ms,m,g,he,h⟩:=h
  cases hb:σ[b]? with
  | none=>simp [Ren.sub,hb] at he
  | some i =>
   rw [Ren.sub_get hb] at he
   simp only [Option.some.injEq] at he
   simp only [CV.ren,hb]
   refine ⟨e,ms,m,g,?_,h⟩
   have hl:=hσ i (List.mem_of_getElem? hb)
   rw [← he,List.getD_eq_getElem?_getD,List.getElem?_eq_getElem hl]
   rfl
theorem A1.R.ren {ρ:Ren} {σ:List Nat} (hσ:∀ i ∈ σ,i < ρ.length) {c:A1} {v:Value} (h:c.R (ρ.sub σ) v):(c.ren σ).R ρ v:=by
 cases c with
 | c x=>exact CV.R.ren hσ h
 | a xs=>obtain ⟨ys,hv,h⟩:=h; exact ⟨ys,hv,(h.mono fun _ _=>CV.R.ren hσ).map_left⟩
theorem AV.R.ren {ρ:Ren} {σ:List Nat} (hσ:∀ i ∈ σ,i < ρ.length) {c:AV} {v:Value} (h:c.R (ρ.sub σ) v):(c.ren σ).R ρ v:=by
 cases c with
 | o x=>exact A1.R.ren hσ h
 | t xs=>obtain ⟨ys,hv,h⟩:=h; exact ⟨ys,hv,(h.mono fun _ _=>A1.R.ren hσ).map_left⟩
theorem renB_spec {σ:List Nat}:∀ {bs l:List Nat},renB σ bs=some l→bs.length=l.length ∧ ∀ k,k<bs.length → σ[bs.getD k 0]? = some (l.getD k 0)
 | [],l,h=>by simp [renB] at h; subst h; exact ⟨rfl,fun k hk=>by simp at hk⟩
 | b::r,l,h=>by
  simp only [renB] at h
  cases hb:σ[b]? with
  | none=>simp [hb] at h
  | some i =>
   cases hr:renB σ r with
   | none=>simp [hb,hr] at h
   | some l' =>
    simp only [hb,hr,Option.some.injEq] at h
    subst h
    obtain ⟨h1,h2⟩:=renB_spec hr
    refine ⟨by simp [h1],fun k hk => ?_⟩
    cases k with
    | zero=>simpa using hb
    | succ k=>simpa using h2 k (by simpa using hk)
theorem flat_ren {α:Type} (e:Enc α) {σ bs l:List Nat} (h:renB σ bs=some l) (xs:List α):(flat e bs xs).map (CV.ren σ)=flat e l xs:=by
 obtain ⟨h1,h2⟩:=renB_spec h
 unfold flat
 rw [List.map_flatMap]
 congr 1
 funext x
 exact e.nat σ bs l x h1 h2
theorem Blk.ok.of_ren {ρ:Ren} {σ:List Nat} {e:Option Nat × Nat} {w:World} {k:Blk} (hl:k.live=true) (h:(k.ren σ).ok ρ e w) (hlr:(k.ren σ).live=true):k.ok (ρ.sub σ) e w:=by
 cases k with
 | dead=>trivial
 | cells T cs =>
  obtain ⟨g,arr,h1,h2,h3⟩:=h
  exact ⟨g,arr,h1,h2,h3.of_map_left.mono fun _ _=>CV.R.of_ren⟩
 | vec wr T en bs wd xs =>
  simp only [Blk.ren] at h hlr
  cases hb:renB σ bs with
  | none=>simp [hb,Blk.live] at hlr
  | some l =>
   simp only [hb] at h
   obtain ⟨h0,h1,h2⟩:=h
   obtain ⟨hb1,hb2⟩:=renB_spec hb
   refine ⟨h0,fun x => ?_,?_⟩
   ·rw [← h1 x,← en.nat σ bs l x hb1 hb2]; simp
   rcases h2 with h2 | ⟨g,arr,fz,h2,h3,h4,h5,hc,⟨sp,h6,h7⟩,h8⟩
   ·exact .inl h2
   refine .inr ⟨g,arr,fz,h2,h3,h4,h5,hc,⟨sp,?_,h7⟩,h8⟩
   rw [← flat_ren en hb] at h6
   have hsp:sp=sp.map (CV.ren σ):=by
    conv=>lhs; rw [← List.map_id sp]
    exact List.map_congr_left fun x hx=>by rw [h7 x hx]; rfl
   rw [hsp,← List.map_append] at h6
   exact h6.of_map_left.mono fun _ _=>CV.R.of_ren
 | fam T en wd xss =>
  obtain ⟨h0,h1,h2,ms,h3,h4,h5,h6⟩:=h
  refine ⟨h0,h1,h2,ms,h3,h4,h5,fun j m xs hm hx => ?_⟩
  rcases h6 j m xs hm hx with h | ⟨g,arr,fz,q1,q2,q3,q4,q5,sp,q6,q7⟩
  ·exact .inl h
  refine .inr ⟨g,arr,fz,q1,q2,q3,q4,q5,sp,?_,q7⟩
  rw [← flat_ren en (σ := σ) (bs:=[]) rfl] at q6
  have hsp:sp=sp.map (CV.ren σ):=by
   conv=>lhs; rw [← List.map_id sp]
   exact List.map_congr_left fun x hx=>by rw [q7 x hx]; rfl
  rw [hsp,← List.map_append] at q6
  exact q6.of_map_left.mono fun _ _=>CV.R.of_ren
theorem Blk.ok.ren {ρ:Ren} {σ:List Nat} (hσ:∀ i ∈ σ,i < ρ.length) {e:Option Nat × Nat} {w:World} {k:Blk} (h:k.ok (ρ.sub σ) e w):(k.ren σ).ok ρ e w:=by
 cases k with
 | dead=>trivial
 | cells T cs =>
  obtain ⟨g,arr,h1,h2,h3⟩:=h
  exact ⟨g,arr,h1,h2,(h3.mono fun _ _=>CV.R.ren hσ).map_left⟩
 | vec wr T en bs wd xs =>
  simp only [Blk.ren]
  cases hb:renB σ bs with
  | none=>trivial
  | some l =>
   obtain ⟨h0,h1,h2⟩:=h
   obtain ⟨hb1,hb2⟩:=renB_spec hb
   refine ⟨h0,fun x => ?_,?_⟩
   ·rw [← h1 x,← en.nat σ bs l x hb1 hb2]; simp
   rcases h2 with h2 | ⟨g,arr,fz,h2,h3,h4,h5,hc,⟨sp,h6,h7⟩,h8⟩
   ·exact .inl h2
   refine .inr ⟨g,arr,fz,h2,h3,h4,h5,hc,⟨sp,?_,h7⟩,h8⟩
   have h9:=(h6.mono fun _ _=>CV.R.ren hσ).map_left
   rw [List.map_append,flat_ren en hb] at h9
   have hsp:sp=sp.map (CV.ren σ):=by
    conv=>lhs; rw [← List.map_id sp]
    exact List.map_congr_left fun x hx=>by rw [h7 x hx]; rfl
   rw [← hsp] at h9
   exact h9
 | fam T en wd xss =>
  obtain ⟨h0,h1,h2,ms,h3,h4,h5,h6⟩:=h
  refine ⟨h0,h1,h2,ms,h3,h4,h5,fun j m xs hm hx => ?_⟩
  rcases h6 j m xs hm hx with h | ⟨g,arr,fz,q1,q2,q3,q4,q5,sp,q6,q7⟩
  ·exact .inl h
  refine .inr ⟨g,arr,fz,q1,q2,q3,q4,q5,sp,?_,q7⟩
  have h9:=(q6.mono fun _ _=>CV.R.ren hσ).map_left
  rw [List.map_append,flat_ren en (σ := σ) (bs:=[]) rfl] at h9
  have hsp:sp=sp.map (CV.ren σ):=by
   conv=>lhs; rw [← List.map_id sp]
   exact List.map_congr_left fun x hx=>by rw [q7 x hx]; rfl
  rw [← hsp] at h9
  exact h9
theorem Blk.ok.more {ρ:Ren} (t:Ren) {e:Option Nat × Nat} {w:World} {k:Blk} (h:k.ok ρ e w):k.ok (ρ ++ t) e w:=by
 cases k with
 | dead=>trivial
 | cells T cs =>
  obtain ⟨g,arr,h1,h2,h3⟩:=h
  exact ⟨g,arr,h1,h2,h3.mono fun _ _=>CV.R.more t⟩
 | vec wr T en bs wd xs =>
  obtain ⟨h0,h1,h2⟩:=h
  refine ⟨h0,h1,?_⟩
  rcases h2 with h2 | ⟨g,arr,fz,h2,h3,h4,h5,hc,⟨sp,h6,h7⟩,h8⟩
  ·exact .inl h2
  exact .inr ⟨g,arr,fz,h2,h3,h4,h5,hc,⟨sp,h6.mono fun _ _=>CV.R.more t,h7⟩,h8⟩
 | fam T en wd xss =>
  obtain ⟨h0,h1,h2,ms,h3,h4,h5,h6⟩:=h
  refine ⟨h0,h1,h2,ms,h3,h4,h5,fun j m xs hm hx => ?_⟩
  rcases h6 j m xs hm hx with h | ⟨g,arr,fz,q1,q2,q3,q4,q5,sp,q6,q7⟩
  ·exact .inl h
  exact .inr ⟨g,arr,fz,q1,q2,q3,q4,q5,sp,q6.mono fun _ _=>CV.R.more t,q7⟩
theorem Blk.ok.keep {ρ:Ren} {e:Option Nat × Nat} {w w':World} {k:Blk} (h:k.ok ρ e w) (hk:∀ g,owns e g→k.live=true→w'.heap[g]? = w.heap[g]?):k.ok ρ e w':=by
 cases k with
 | dead=>trivial
 | cells T cs =>
  obtain ⟨g,arr,h1,h2,h3⟩:=h
  exact ⟨g,arr,h1,(hk g (.inl h1) rfl).trans h2,h3⟩
 | vec wr T en bs wd xs =>
  obtain ⟨h0,h1,h2⟩:=h
  refine ⟨h0,h1,?_⟩
  rcases h2 with h2 | ⟨g,arr,fz,h2,h3,h4⟩
  ·exact .inl h2
  exact .inr ⟨g,arr,fz,h2,(hk g (.inl h2) rfl).trans h3,h4⟩
 | fam T en wd xss =>
  obtain ⟨h0,h1,h2,ms,h3,h4,h5,h6⟩:=h
  refine ⟨h0,h1,h2,ms,h3,h4,h5,fun j m xs hm hx => ?_⟩
  rcases h6 j m xs hm hx with h | ⟨g,arr,fz,q1,q2,q3⟩
  ·exact .inl h
  exact .inr ⟨g,arr,fz,q1,(hk g (.inr ⟨h2,ms,m.2,h3,by rw [← q1]; exact List.mem_of_getElem? hm⟩) rfl).trans q2,q3⟩
def Blk.one:Blk→Bool
 | .fam .. => false
 | _=>true
theorem Blk.ok.own1 {ρ:Ren} {e:Option Nat × Nat} {w:World} {k:Blk} (h:k.ok ρ e w) (hl:k.live=true) (ho:k.one=true) {g:Nat} (hg:owns e g):e.1=some g:=by
 rcases hg with hg | ⟨h1,ms,c,h2,h3⟩
 ·exact hg
 cases k with
 | dead=>simp [Blk.live] at hl
 | cells T cs=>obtain ⟨g',arr,q,_⟩:=h; rw [h1] at q; cases q
 | vec wr T en bs wd xs =>
  obtain ⟨_,_,q⟩:=h
  rcases q with ⟨_,_,q⟩ | ⟨g',arr,fz,q,_⟩
  ·have:=encM_inj (a:=ms) (b:=[]) (h2.trans q)
   subst this
   cases h3
  rw [h1] at q; cases q
 | fam T en wd xss=>cases ho
theorem Blk.ok.block {ρ:Ren} {e:Option Nat × Nat} {w:World} {k:Blk} (h:k.ok ρ e w) (hl:k.live=true) {g:Nat} (hg:owns e g):g<w.heap.size:=by
 have key:∀ {x:Obj},w.heap[g]? = some x→g<w.heap.size:=fun h=>(Array.getElem?_eq_some_iff.1 h).1
 cases k with
 | dead=>simp [Blk.live] at hl
 | cells T cs =>
  have hg:=h.own1 hl rfl hg
  obtain ⟨g',arr,h1,h2,_⟩:=h
  rw [hg] at h1
  cases h1
  exact key h2
 | vec wr T en bs wd xs =>
  have hg:=h.own1 hl rfl hg
  obtain ⟨_,_,h2⟩:=h
  rcases h2 with h2 | ⟨g',arr,fz,h2,h3,_⟩
  ·rw [hg] at h2; cases h2.1
  rw [hg] at h2; cases h2; exact key h3
 | fam T en wd xss =>
  obtain ⟨h0,h1,h2,ms,h3,h4,h5,h6⟩:=h
  rcases hg with hg | ⟨_,ms',c,h7,h8⟩
  ·rw [hg] at h2; cases h2
  have:=encM_inj (h7.trans h3.symm)
  subst this
  obtain ⟨j,hj⟩:=List.mem_iff_getElem?.1 h8
  obtain ⟨xs,hxs⟩:∃ xs,xss[j]? = some xs:=⟨_,List.getElem?_eq_getElem (by rw [← h4]; exact (List.getElem?_eq_some_iff.1 hj).1)⟩
  rcases h6 j _ xs hj hxs with ⟨q,_⟩ | ⟨g',arr,fz,q1,q2,_⟩
  ·cases q
  cases q1; exact key q2
end Go.Vc
end
section
namespace Go.Vc
open Go.RowKit (Below)
structure Cx where
 w1:World
 F:Nat→Prop
 ρe:Ren
 ds:List Deferred
structure Core (w0:World) (cx:Cx) (ρ:Ren) (H:List Blk) (w:World):Prop where
 rh:RH w0 ρ H w
 fr:FrameP cx.w1 cx.F w
 own:∀ g,image ρ H g→cx.F g∨cx.w1.heap.size≤g
 pre:∃ t,ρ = cx.ρe++t
def EnvR (ρ:Ren) (e:Env) (tmps:Array Value):Prop := ∀ t x,look e t=some x → ∃ v,tmps[t]? = some v∧x.R ρ v
theorem EnvR.more {ρ:Ren} {e:Env} {tmps:Array Value} (t:Ren) (h:EnvR ρ e tmps):EnvR (ρ ++ t) e tmps:=fun k x hx =>
 let ⟨v,h1,h2⟩:=h k x hx
 ⟨v,h1,h2.more t⟩
section
variable {ρ:Ren} {e:Env} {a:Act} {o:Operand} {x:X}
theorem get_R (hE:EnvR ρ e a.tmps) (hx:compX o=some x) {y:AV} (h:x.get e=some y):y.R ρ (a.eval o):=by
 cases o with
 | tmp t =>
  simp only [compX,Option.some.injEq] at hx
  subst hx
  obtain ⟨v,h1,h2⟩:=hE t y h
  simpa [Act.eval,h1] using h2
 | const v =>
  simp only [compX] at hx
  split at hx
  ·rename_i hv
   simp only [Option.some.injEq] at hx
   subst hx
   cases v <;> simp only [X.get,Option.some.injEq] at h <;> subst h <;> first | exact rfl | exact ⟨rfl,hv⟩
  cases hx
 | global g =>
  simp only [compX,Option.some.injEq] at hx
  subst hx
  simp only [X.get,Option.some.injEq] at h
  subst h
  exact ⟨rfl,rfl⟩
 | func f =>
  simp only [compX,Option.some.injEq] at hx
  subst hx
  simp only [X.get,Option.some.injEq] at h
  subst h
  exact ⟨rfl,rfl⟩
theorem getV_R (hE:EnvR ρ e a.tmps) (hx:compX o=some x) {k:AV→Prop} (h:getV e x k):∃ y,x.get e=some y∧k y∧y.R ρ (a.eval o):=by
 unfold getV at h
 split at h
 ·rename_i y hy
  exact ⟨y,hy,h,get_R hE hx hy⟩
 exact h.elim
theorem get1_R (hE:EnvR ρ e a.tmps) (hx:compX o=some x) {k:A1→Prop} (h:get1 e x k):∃ y,k y∧y.R ρ (a.eval o):=by
 unfold get1 at h
 split at h
 ·rename_i y hy
  exact ⟨y.norm,h,A1.R.norm (get_R hE hx hy)⟩
 exact h.elim
theorem getC_R (hE:EnvR ρ e a.tmps) (hx:compX o=some x) {k:CV→Prop} (h:getC e x k):∃ y,k y∧y.R ρ (a.eval o):=by
 unfold getC at h
 split at h
 ·rename_i y hy
  exact ⟨y.norm,h,CV.R.norm (get_R hE hx hy)⟩
 exact h.elim
theorem getC_R' (hE:EnvR ρ e a.tmps) (hx:compX o=some x) {k:CV→Prop} (h:getC e x k):∃ y,x.get e=some (.o (.c y))∧k y.norm∧y.norm.R ρ (a.eval o):=by
 unfold getC at h
 split at h
 ·rename_i y hy
  exact ⟨y,hy,h,CV.R.norm (get_R hE hx hy)⟩
 exact h.elim
theorem getI_R (hE:EnvR ρ e a.tmps) (hx:compX o=some x) {k:IntKind→Int→Prop} (h:getI e x k):∃ d n,k d n∧a.eval o = .int d n:=by
 unfold getI at h
 split at h
 ·rename_i d n hy
  exact ⟨d,n,h,(get_R hE hx hy).1⟩
 exact h.elim
theorem getB_R (hE:EnvR ρ e a.tmps) (hx:compX o=some x) {k:Bool→Prop} (h:getB e x k):∃ b,k b∧a.eval o = .bool b:=by
 unfold getB at h
 split at h
 ·rename_i b hy
  exact ⟨b,h,(get_R hE hx hy).1⟩
 ·rename_i b hy
  exact ⟨b,h,get_R hE hx hy⟩
 exact h.elim
theorem getS_R (hE:EnvR ρ e a.tmps) (hx:compX o=some x) {k:ByteArray→Prop} (h:getS e x k):∃ b,k b∧a.eval o = .string b:=by
 unfold getS at h
 split at h
 ·rename_i b hy
  exact ⟨b,h,(get_R hE hx hy).1⟩
 exact h.elim
theorem getBr_R (hE:EnvR ρ e a.tmps) (hx:compX o=some x) {A B:Prop} (h:getBr e x A B):∃ b,a.eval o = .bool b∧(b=true→A)∧(b=false→B):=by
 unfold getBr at h
 split at h
 ·rename_i b hy
  exact ⟨b,(get_R hE hx hy).1,h⟩
 ·rename_i hy
  exact ⟨true,get_R hE hx hy,fun _=>h,fun h=>absurd h (by simp)⟩
 ·rename_i hy
  exact ⟨false,get_R hE hx hy,fun h=>absurd h (by simp),fun _=>h⟩
 exact h.elim
end
theorem get1s_R {ρ:Ren} {e:Env} {a:Act} (hE:EnvR ρ e a.tmps):∀ {os:List Operand} {xs:List X} (_:compXs os=some xs) {k:List A1→Prop} (_:get1s e xs k),∃ l,k l∧All2 (A1.R ρ) l (os.map a.eval)
 | [],xs,hx,k,h=>by simp only [compXs,Option.some.injEq] at hx; subst hx; exact ⟨[],h,.nil⟩
 | o::r,xs,hx,k,h=>by
  simp only [compXs] at hx
  cases h1:compX o with
  | none=>simp [h1] at hx
  | some y =>
   cases h2:compXs r with
   | none=>simp [h1,h2] at hx
   | some l =>
    simp only [h1,h2,Option.some.injEq] at hx
    subst hx
    simp only [get1s] at h
    obtain ⟨z,hz,hR⟩:=get1_R hE h1 h
    obtain ⟨m,hm,hA⟩:=get1s_R hE h2 hz
    exact ⟨z::m,hm,.cons hR hA⟩
theorem getCs_R {ρ:Ren} {e:Env} {a:Act} (hE:EnvR ρ e a.tmps):∀ {os:List Operand} {xs:List X} (_:compXs os=some xs) {k:List CV→Prop} (_:getCs e xs k),∃ l,k l∧All2 (CV.R ρ) l (os.map a.eval)
 | [],xs,hx,k,h=>by simp only [compXs,Option.some.injEq] at hx; subst hx; exact ⟨[],h,.nil⟩
 | o::r,xs,hx,k,h=>by
  simp only [compXs] at hx
  cases h1:compX o with
  | none=>simp [h1] at hx
  | some y =>
   cases h2:compXs r with
   | none=>simp [h1,h2] at hx
   | some l =>
    simp only [h1,h2,Option.some.injEq] at hx
    subst hx
    simp only [getCs] at h
    obtain ⟨z,hz,hR⟩:=getC_R hE h1 h
    obtain ⟨m,hm,hA⟩:=getCs_R hE h2 hz
    exact ⟨z::m,hm,.cons hR hA⟩
theorem takeF_spec {α:Type}:∀ {n:Nat} {l:List α} {k:List α → Prop},takeF n l k→n≤l.length∧k (l.take n)
 | 0,l,k,h=>⟨Nat.zero_le _,by simpa [takeF] using h⟩
 | n+1,x::r,k,h=>by
  simp only [takeF] at h
  obtain ⟨h1,h2⟩:=takeF_spec h
  exact ⟨by simpa using h1,by simpa using h2⟩
 | n+1,[],k,h=>h.elim
theorem dropF_spec {α:Type}:∀ {n:Nat} {l:List α} {k:List α → Prop},dropF n l k→n≤l.length∧k (l.drop n)
 | 0,l,k,h=>⟨Nat.zero_le _,by simpa [dropF] using h⟩
 | n+1,x::r,k,h=>by
  simp only [dropF] at h
  obtain ⟨h1,h2⟩:=dropF_spec h
  exact ⟨by simpa using h1,by simpa using h2⟩
 | n+1,[],k,h=>h.elim
theorem putF_spec {α:Type}:∀ {n:Nat} {vs l:List α} {k:List α → Prop},putF n vs l k→n+vs.length≤l.length∧k (l.take n++(vs++l.drop (n+vs.length)))
 | 0,[],l,k,h=>⟨by simp,by simpa [putF] using h⟩
 | 0,v::vs,x::l,k,h=>by
  simp only [putF] at h
  obtain ⟨h1,h2⟩:=putF_spec h
  refine ⟨by simp at h1 ⊢; omega,?_⟩
  simp only [Nat.zero_add,List.take_zero,List.nil_append,List.length_cons,List.cons_append] at h2 ⊢
  simpa using h2
 | 0,_::_,[],k,h=>h.elim
 | n+1,vs,x::l,k,h=>by
  simp only [putF] at h
  obtain ⟨h1,h2⟩:=putF_spec h
  refine ⟨by simp; omega,?_⟩
  have e:n+1+vs.length=(n+vs.length)+1:=by omega
  rw [e]
  simpa using h2
 | n+1,vs,[],k,h=>by cases vs <;> exact h.elim
theorem setF_spec:∀ {b:Nat} {x:Blk} {H:List Blk} {k:List Blk→Prop},setF b x H k→b<H.length∧k (H.set b x)
 | 0,x,y::l,k,h=>⟨by simp,by simpa [setF] using h⟩
 | n+1,x,y::l,k,h=>by
  simp only [setF] at h
  obtain ⟨h1,h2⟩:=setF_spec h
  exact ⟨by simpa using h1,by simpa using h2⟩
 | 0,x,[],k,h=>h.elim
 | n+1,x,[],k,h=>h.elim
theorem pushF_spec:∀ {x:Blk} {H:List Blk} {n:Nat} {k:Nat→List Blk→Prop},pushF x H n k→k (n+H.length) (H++[x])
 | x,[],n,k,h=>by simpa [pushF] using h
 | x,y::l,n,k,h=>by
  simp only [pushF] at h
  have h1:=pushF_spec h
  have e:n+(y::l).length=n+1+l.length:=by simp; omega
  rw [e]
  simpa using h1
theorem mapF_spec {f:Value→CV}:∀ {l:List Value} {k:List CV→Prop},mapF f l k→k (l.map f)
 | [],_,h=>h
 | x::l,k,h=>mapF_spec (l:=l) (k:=fun r=>k (f x::r)) h
theorem addr_add (g o i:Nat):(⟨g,o,none⟩:Addr).add i=⟨g,o+i,none⟩:=by
 unfold Addr.add
 split
 ·subst_vars; rfl
 rfl
theorem cell_at {w:World} {g o:Nat} {arr:Array Value} {T:TypeId} {fz:Nat × Nat} (h:w.heap[g]? = some (.cells arr T fz)):w.cell? ⟨g,o,none⟩=arr[o]? := by
 simp [World.cell?,h]
theorem RH.get {w0:World} {ρ:Ren} {H:List Blk} {w:World} (h:RH w0 ρ H w) {b:Nat} {k:Blk} (hb:H[b]? = some k):∃ e,ρ[b]? = some e∧k.ok ρ e w:=by
 have hl:b < ρ.length:=by rw [h.len]; exact (List.getElem?_eq_some_iff.1 hb).1
 exact ⟨ρ[b],List.getElem?_eq_getElem hl,h.ok b k _ hb (List.getElem?_eq_getElem hl)⟩
theorem at_of_get {ρ:Ren} {b:Nat} {e:Option Nat × Nat} (h:ρ[b]? = some e):ρ.at b=e.1:=by simp [Ren.at,h]
theorem flat_length {α:Type} {e:Enc α} {bs:List Nat} {wd:Nat} (h:∀ x,(e.f bs x).length=wd):∀ xs:List α,(flat e bs xs).length=xs.length*wd
 | []=>by simp [flat]
 | x::xs=>by
  have:=flat_length h xs
  simp only [flat,List.flatMap_cons,List.length_append,List.length_cons] at this ⊢
  rw [this,h x,Nat.add_mul]
  omega
theorem flat_drop {α:Type} {e:Enc α} {bs:List Nat} {wd:Nat} (h:∀ x,(e.f bs x).length=wd):∀ (i:Nat) (xs:List α),i≤xs.length→(flat e bs xs).drop (i*wd)=flat e bs (xs.drop i)
 | 0,xs,_=>by simp
 | i+1,[],hi=>by simp at hi
 | i+1,x::xs,hi=>by
  have:=flat_drop h i xs (by simpa using hi)
  have e1:(i+1)*wd=(e.f bs x).length+i*wd:=by rw [h x,Nat.add_mul]; omega
  rw [e1]
  simp only [flat,List.flatMap_cons,List.drop_succ_cons] at this ⊢
  rw [List.drop_append,← this]
  simp [List.drop_eq_nil_of_le]
theorem flat_take {α:Type} {e:Enc α} {bs:List Nat} {wd:Nat} (h:∀ x,(e.f bs x).length=wd):∀ (i:Nat) (xs:List α),i≤xs.length→(flat e bs xs).take (i*wd)=flat e bs (xs.take i)
 | 0,xs,_=>by simp [flat]
 | i+1,[],hi=>by simp at hi
 | i+1,x::xs,hi=>by
  have:=flat_take h i xs (by simpa using hi)
  have e1:(i+1)*wd=(e.f bs x).length+i*wd:=by rw [h x,Nat.add_mul]; omega
  rw [e1]
  simp only [flat,List.flatMap_cons,List.take_succ_cons] at this ⊢
  rw [List.take_append,← this]
  simp [List.take_of_length_le]
theorem ldn_sound {w0:World} {ρ:Ren} {H:List Blk} {w:World} (hC:RH w0 ρ H w) {c:CV} {n:Nat} {k:List CV→Prop} (h:ldn w0 H c n k) {v:Value} (hv:c.R ρ v) :
 ∃ ad cs vs,v = .pointer (some ad)∧k cs∧All2 (CV.R ρ) cs vs∧vs.length=n∧(∀ j u,vs[j]? = some u→w.cell? (ad.add j)=some u)∧(c.isV=true → ∀ j u,vs[j]? = some u→w0.cell? (ad.add j)=some u):=by
 -- a run of cells of a block that is known cell by cell
 have key:∀ (g o:Nat) (arr:Array Value) (T:TypeId) (fz:Nat × Nat) (cs:List CV),w.heap[g]? = some (.cells arr T fz)→All2 (CV.R ρ) cs arr.toList →
  (dropF o cs fun l=>takeF n l k) → ∃ cs vs,k cs∧All2 (CV.R ρ) cs vs∧vs.length=n ∧ ∀ j u,vs[j]? = some u→w.cell? ((⟨g,o,none⟩:Addr).add j)=some u:=by
  intro g o arr T fz cs hg hA hd
  obtain ⟨h1,hd⟩:=dropF_spec hd
  obtain ⟨h2,hd⟩:=takeF_spec hd
  have hA2:=(hA.drop_ o).take_ n
  refine ⟨_,_,hd,hA2,?_,fun j u hu => ?_⟩
  ·rw [← hA2.length,List.length_take]; omega
  rw [addr_add,cell_at hg]
  rw [List.getElem?_take] at hu
  split at hu
  ·rw [List.getElem?_drop] at hu
   simpa using hu
  cases hu
 unfold ldn at h
 split at h
 ·rename_i b o
  split at h
  ·rename_i T cs hb
   obtain ⟨g,hg,rfl⟩:=hv
   obtain ⟨e,he,g',arr,h1,h2,h3⟩:=hC.get hb
   rw [at_of_get he,h1] at hg
   cases hg
   obtain ⟨cs',vs,h4,h5,h6,h7⟩:=key g o arr T _ cs h2 h3 h
   exact ⟨_,cs',vs,rfl,h4,h5,h6,h7,fun h=>by cases h⟩
  exact h.elim
 ·rename_i b wd i j
  split at h
  ·rename_i T cs hb
   obtain ⟨g,hg,rfl⟩:=hv
   obtain ⟨e,he,g',arr,h1,h2,h3⟩:=hC.get hb
   rw [at_of_get he,h1] at hg
   cases hg
   obtain ⟨cs',vs,h4,h5,h6,h7⟩:=key g _ arr T _ cs h2 h3 h
   exact ⟨_,cs',vs,rfl,h4,h5,h6,h7,fun h=>by cases h⟩
  ·rename_i α wr T e bs wd' xs hb
   obtain ⟨g,hg,rfl⟩:=hv
   unfold chk at h
   split at h
   ·rename_i hw
    have hw:wd=wd':=by simpa using hw
    subst hw
    obtain ⟨x,hx,h⟩:=h
    obtain ⟨e',he,h0,hlen,h2⟩:=hC.get hb
    rcases h2 with ⟨h2,_⟩ | ⟨g',arr,fz,h2,h3,h4,h5,hc,⟨sp,h6,h7⟩,h8⟩
    ·rw [at_of_get he,h2] at hg; cases hg
    rw [at_of_get he,h2] at hg
    cases hg
    obtain ⟨h9,h⟩:=dropF_spec h
    obtain ⟨h10,h⟩:=takeF_spec h
    have hlt:i<xs.length:=(List.getElem?_eq_some_iff.1 hx).1
    have hseg:((flat e bs xs++sp).drop (i*wd+j)).take n=((e.f bs x).drop j).take n:=by
     have hxd:xs.drop i=x::xs.drop (i+1):=by
      rw [List.drop_eq_getElem_cons hlt]
      congr 1
      rw [List.getElem?_eq_getElem hlt] at hx
      exact Option.some.inj hx
     have hfd:=flat_drop hlen i xs (by omega)
     rw [hxd] at hfd
     rw [← List.drop_drop,List.drop_append_of_le_length (by rw [flat_length hlen]; exact Nat.mul_le_mul_right _ (by omega)),hfd]
     simp only [flat,List.flatMap_cons,List.append_assoc]
     rw [List.drop_append_of_le_length h9,List.take_append_of_le_length h10]
    have hA2:=(h6.drop_ (i*wd+j)).take_ n
    rw [hseg] at hA2
    refine ⟨_,_,_,rfl,h,hA2,?_,fun jj u hu => ?_,fun h=>by cases h⟩
    ·rw [← hA2.length,List.length_take]; omega
    rw [addr_add,cell_at h3]
    rw [List.getElem?_take] at hu
    split at hu
    ·rw [List.getElem?_drop] at hu
     simpa using hu
    cases hu
   exact h.elim
  exact h.elim
 ·rename_i a
  obtain ⟨rfl,_⟩:=hv
  have hext:∀ (n i:Nat) (k:List CV→Prop),extN w0 a i n k → ∃ vs:List Value,k (vs.map .val)∧vs.length=n∧(∀ u∈vs,u.oneCell'=true) ∧ ∀ j u,vs[j]? = some u→w0.cell? (a.add (i+j))=some u:=by
   intro n
   induction n with
   | zero=>intro i k h; exact ⟨[],h,rfl,by simp,by simp⟩
   | succ n ih =>
    intro i k h
    obtain ⟨x,hx,ho,h⟩:=h
    obtain ⟨vs,h1,h2,h3,h4⟩:=ih (i+1) _ h
    refine ⟨x::vs,h1,by simp [h2],by simpa using ⟨ho,h3⟩,fun j u hu => ?_⟩
    cases j with
    | zero=>simp at hu; subst hu; exact hx
    | succ j=>rw [show i+(j+1)=i+1+j from by omega]; exact h4 j u (by simpa using hu)
  obtain ⟨vs,h1,h2,h3,h4⟩:=hext n 0 k h
  refine ⟨a,_,vs,rfl,h1,?_,h2,fun j u hu => ?_,fun _ j u hu=>by have:=h4 j u hu; rwa [Nat.zero_add] at this⟩
  ·clear h1 h2 h4
   induction vs with
   | nil=>exact .nil
   | cons x r ih=>exact .cons ⟨rfl,h3 x (by simp)⟩ (ih fun u hu=>h3 u (by simp [hu]))
  have:=h4 j u hu
  rw [Nat.zero_add] at this
  have hb:(a.add j).block<w0.heap.size:=World.block_lt_of_cell? w0 _ this
  rw [hC.base.cell hb]
  exact this
 ·rename_i b m wd i j
  split at h
  ·rename_i α T e wd' xss hb
   obtain ⟨e1,ms,mm,g,he1,hms,hj,hg,rfl⟩:=hv
   unfold chk at h
   split at h
   ·rename_i hw
    have hw:wd=wd':=by simpa using hw
    subst hw
    obtain ⟨xs,x,hxs,hx,h⟩:=h
    obtain ⟨e',he,h0,hlen,h1,ms',h2,h3,h4,h5⟩:=hC.get hb
    rw [he1] at he
    cases he
    have:=encM_inj (hms.trans h2.symm)
    subst this
    rcases h5 m mm xs hj hxs with ⟨q,_⟩ | ⟨g',arr,fz,q1,q2,q3,q4,q5,sp,h6,h7⟩
    ·rw [hg] at q; cases q
    rw [hg] at q1
    cases q1
    obtain ⟨h9,h⟩:=dropF_spec h
    obtain ⟨h10,h⟩:=takeF_spec h
    have hlt:i<xs.length:=(List.getElem?_eq_some_iff.1 hx).1
    have hseg:((flat e [] xs++sp).drop (i*wd+j)).take n=((e.f [] x).drop j).take n:=by
     have hxd:xs.drop i=x::xs.drop (i+1):=by
      rw [List.drop_eq_getElem_cons hlt]
      congr 1
      rw [List.getElem?_eq_getElem hlt] at hx
      exact Option.some.inj hx
     have hfd:=flat_drop hlen i xs (by omega)
     rw [hxd] at hfd
     rw [← List.drop_drop,List.drop_append_of_le_length (by rw [flat_length hlen]; exact Nat.mul_le_mul_right _ (by omega)),hfd]
     simp only [flat,List.flatMap_cons,List.append_assoc]
     rw [List.drop_append_of_le_length h9,List.take_append_of_le_length h10]
    have hA2:=(h6.drop_ (i*wd+j)).take_ n
    rw [hseg] at hA2
    refine ⟨_,_,_,rfl,h,hA2,?_,fun jj u hu => ?_,fun h=>by cases h⟩
    ·rw [← hA2.length,List.length_take]; omega
    rw [addr_add,cell_at q2]
    rw [List.getElem?_take] at hu
    split at hu
    ·rw [List.getElem?_drop] at hu
     simpa using hu
    cases hu
   exact h.elim
  exact h.elim
 exact h.elim
section
variable {P:Program} {w0:World} {ρ:Ren} {s:S} {K:AV→S→Prop} {a:Act} {o:Oper}
def QOk (P:Program) (o:Oper) (a:Act) (ρ:Ren) (s:S) (K:AV→S→Prop):Prop :=
 ∃ x v,K x s∧x.R ρ v ∧ ∀ w',(execOp a.eval o).run P w' = .ok (.value v) w'
theorem q_mov (hE:EnvR ρ s.env a.tmps) {x:Operand} {y:X} (hop:o.op = .move x∨o.op = .assign x) (hx:compX x=some y) (h:evI P w0 (.mov y) s K):QOk P o a ρ s K:=by
 simp only [evI] at h
 obtain ⟨z,_,hK,hR⟩:=getV_R hE hx h
 exact ⟨z,_,hK,hR,fun w'=>by rcases hop with hop | hop <;> simp [execOp,hop]⟩
theorem q_nil (hE:EnvR ρ s.env a.tmps) {x:Operand} {y:X} (hop:o.op = .nilCheck x) (hx:compX x=some y) (h:evI P w0 (.nil y) s K):QOk P o a ρ s K:=by
 simp only [evI] at h
 obtain ⟨z,hK,hR⟩:=getC_R hE hx h
 split at hK
 case h_1 b o'=>obtain ⟨g,hg,he⟩:=hR; exact ⟨_,_,hK,⟨g,hg,rfl⟩,fun w'=>by simp [execOp,hop,he]⟩
 case h_2 b wd i j=>obtain ⟨g,hg,he⟩:=hR; exact ⟨_,_,hK,⟨g,hg,rfl⟩,fun w'=>by simp [execOp,hop,he]⟩
 case h_3 t b o'=>obtain ⟨g,hg,he⟩:=hR; exact ⟨_,_,hK,⟨g,hg,rfl⟩,fun w'=>by simp [execOp,hop,he]⟩
 case h_4 g l=>obtain ⟨vs,he,hA⟩:=hR; exact ⟨_,_,hK,⟨vs,rfl,hA⟩,fun w'=>by simp [execOp,hop,he]⟩
 case h_5 ad=>obtain ⟨he,h1⟩:=hR; exact ⟨_,_,hK,⟨rfl,h1⟩,fun w'=>by simp [execOp,hop,he]⟩
 case h_6 t v=>obtain ⟨he,h1⟩:=hR; exact ⟨_,_,hK,⟨rfl,h1⟩,fun w'=>by simp [execOp,hop,he]⟩
 case h_7 g b c=>obtain ⟨he,h1⟩:=hR; exact ⟨_,_,hK,⟨rfl,h1⟩,fun w'=>by simp [execOp,hop,he]⟩
 case h_8 b m wd i j=>obtain ⟨e,ms,mm,g,g1,g2,g3,g4,he⟩:=hR; exact ⟨_,_,hK,⟨e,ms,mm,g,g1,g2,g3,g4,rfl⟩,fun w'=>by simp [execOp,hop,he]⟩
 case h_9 name t b o' =>
  obtain ⟨hn,hK⟩:=hK
  obtain ⟨g,hg,he⟩:=hR
  exact ⟨_,_,hK,⟨g,hg,rfl⟩,fun w'=>by simp [execOp,hop,he,hn ⟨g,o',none⟩ w']⟩
 case h_10 f b o'=>obtain ⟨g,hg,he⟩:=hR; exact ⟨_,_,hK,⟨g,hg,rfl⟩,fun w'=>by simp [execOp,hop,he]⟩
 case h_11=>exact hK.elim
theorem q_ffa (hE:EnvR ρ s.env a.tmps) {t:TypeId} {x:Operand} {f:Nat} {y:X} {fs:Array Field} {fd:Field} {n:Nat} (hop:o.op = .fieldAddr t x f) (hx:compX x=some y)
 (hu:P.underlying t=some (.struct fs)) (hf:fs[f]? = some fd) (hs:sizeT P fd.type=some n) (hn:n≠0) (h:evI P w0 (.ffa y fd.offset) s K):QOk P o a ρ s K:=by
 simp only [evI] at h
 obtain ⟨z,hK,hR⟩:=getC_R hE hx h
 obtain ⟨i,hi,hin⟩:∃ i,P.info? fd.type=some i∧i.size=n:=by
  unfold sizeT at hs
  cases hi:P.info? fd.type with
  | none=>simp [hi] at hs
  | some i=>exact ⟨i,rfl,by simpa [hi] using hs⟩
 have hrun:∀ (ad:Addr) (w':World),a.eval x = .pointer (some ad)→(execOp a.eval o).run P w' = .ok (.value (.pointer (some (ad.add fd.offset)))) w':=by
  intro ad w' he
  simp [execOp,hop,he,Instr.fieldAt,Instr.sureAddr,run_underlying hu,hf,fieldPlace,sizeOf,typeInfo,hi,hin,hn]
 split at hK
 case h_1 b o' =>
  obtain ⟨g,hg,he⟩:=hR
  exact ⟨_,_,hK,⟨g,hg,rfl⟩,fun w'=>by rw [hrun _ w' he,addr_add]⟩
 case h_2 b wd i j =>
  obtain ⟨g,hg,he⟩:=hR
  exact ⟨_,_,hK,⟨g,hg,rfl⟩,fun w'=>by rw [hrun _ w' he,addr_add,Nat.add_assoc]⟩
 case h_3 ad =>
  obtain ⟨he,h1⟩:=hR
  exact ⟨_,_,hK,⟨rfl,rfl⟩,fun w'=>hrun _ w' he⟩
 case h_4 b m wd i j =>
  obtain ⟨e,ms,mm,g,g1,g2,g3,g4,he⟩:=hR
  exact ⟨_,_,hK,⟨e,ms,mm,g,g1,g2,g3,g4,rfl⟩,fun w'=>by rw [hrun _ w' he,addr_add,Nat.add_assoc]⟩
 case h_5=>exact hK.elim
theorem q_pick (hE:EnvR ρ s.env a.tmps) {c x y:Operand} {c' x' y':X} (hop:o.op = .pick c x y) (hc:compX c=some c') (hx:compX x=some x') (hy:compX y=some y')
 (h:evI P w0 (.pick c' x' y') s K):QOk P o a ρ s K:=by
 simp only [evI] at h
 obtain ⟨b,hb,h1,h2⟩:=getBr_R hE hc h
 cases b with
 | true =>
  obtain ⟨z,_,hK,hR⟩:=getV_R hE hx (h1 rfl)
  exact ⟨_,_,hK,hR,fun w'=>by simp [execOp,hop,hb,asBool]⟩
 | false =>
  obtain ⟨z,_,hK,hR⟩:=getV_R hE hy (h2 rfl)
  exact ⟨_,_,hK,hR,fun w'=>by simp [execOp,hop,hb,asBool]⟩
theorem binI_run (op:BinOp) (t:TypeId) (k k':IntKind) (x y:Int) {K:Value→Prop} (h:binI op k x k' y K):∃ v,K v∧v.oneCell'=true ∧ ∀ w',(binOp op t (.int k x) (.int k' y)).run P w' = .ok v w':=by
 have hk:∀ {A:Prop},chk (sameK k k') A→k=k'∧A:=by
  intro A h
  unfold chk at h
  split at h
  ·rename_i hs; exact ⟨sameK_eq hs,h⟩
  exact h.elim
 cases op <;> simp only [binI] at h
 case shl=>exact ⟨_,h.2,rfl,fun w'=>by have:=h.1; simp [binOp,Op.shift,show ¬ y<0 by omega]⟩
 case shr=>exact ⟨_,h.2,rfl,fun w'=>by have:=h.1; simp [binOp,Op.shift,show ¬ y<0 by omega]⟩
 case quo=>obtain ⟨hk1,h0,h2⟩:=hk h; subst hk1; exact ⟨_,h2,rfl,fun w'=>by simp [binOp,Op.intDiv,h0]⟩
 case rem=>obtain ⟨hk1,h0,h2⟩:=hk h; subst hk1; exact ⟨_,h2,rfl,fun w'=>by simp [binOp,Op.intDiv,h0]⟩
 all_goals (obtain ⟨hk1,h2⟩:=hk h; subst hk1; exact ⟨_,h2,rfl,fun w'=>by simp [binOp,Op.intArith,Op.intBits,Op.intCmp]⟩)
theorem eqGuard_int (op:BinOp) (t:TypeId) (x y:Operand) (k:IntKind) (n:Int) (v:Value) (w':World):(eqGuard op t x y (.int k n) v).run P w' = .ok () w':=by
 unfold eqGuard
 cases op <;> simp
theorem eqGuard_str (op:BinOp) (t:TypeId) (x y:Operand) (b:ByteArray) (v:Value) (w':World):(eqGuard op t x y (.string b) v).run P w' = .ok () w':=by
 unfold eqGuard
 cases op <;> simp
theorem eqGuard_bool (op:BinOp) (t:TypeId) (x y:Operand) (b:Bool) (v:Value) (w':World):(eqGuard op t x y (.bool b) v).run P w' = .ok () w':=by
 unfold eqGuard
 cases op <;> simp
theorem eqGuard_flt (op:BinOp) (t:TypeId) (x y:Operand) (k:FloatKind) (b:Nat) (v:Value) (w':World):(eqGuard op t x y (.float k b) v).run P w' = .ok () w':=by
 unfold eqGuard
 cases op <;> simp
theorem bin1_run {x y:Operand} (op:BinOp) (t:TypeId) (v v':Value) {K:Value→Prop} (h:bin1 op v v' K):∃ r,K r∧r.oneCell'=true ∧ ∀ w',(do eqGuard op t x y v v'; binOp op t v v':Sem Value).run P w' = .ok r w':=by
 cases v <;> simp only [bin1] at h
 case int k n =>
  cases v' <;> simp only at h
  case int k' n' =>
   obtain ⟨r,hr,h1,hrun⟩:=binI_run (P:=P) op t k k' n n' h
   exact ⟨r,hr,h1,fun w'=>by simp [eqGuard_int,hrun]⟩
 case string b =>
  cases v' <;> simp only at h
  case string b' =>
   cases op <;> simp only [binS] at h
   case add =>
    refine ⟨_,h.2,rfl,fun w' => ?_⟩
    have hle:¬ (((b.size+b'.size:Nat):Int)>IntKind.i64.max):=by
     have h1:=h.1
     have e:IntKind.i64.max=9223372036854775807:=by decide
     rw [e]
     omega
    simp only [Sem.run_bind,eqGuard_str,Result.andThen_ok,binOp,Op.stringOp,if_neg hle]
    rfl
   case eql=>exact ⟨_,h,rfl,fun w'=>by simp [eqGuard_str,binOp,Op.stringOp]⟩
   case neq=>exact ⟨_,h,rfl,fun w'=>by simp [eqGuard_str,binOp,Op.stringOp]⟩
 case float k b =>
  cases v' <;> simp only at h
  case float k' b' =>
   obtain ⟨rfl,r,⟨h1,h2⟩,hK⟩:=h
   refine ⟨r,hK,h1,fun w' => ?_⟩
   have h3:=h2 P w'
   rw [Sem.run_bind,eqGuard_flt,Result.andThen_ok,← h3]
   cases op <;> simp [binOp,fltRun]
theorem q_bin (hE:EnvR ρ s.env a.tmps) {op:BinOp} {t u:TypeId} {x y:Operand} {x' y':X} (hop:o.op = .binOp op t x y u) (hx:compX x=some x') (hy:compX y=some y')
 (h:evI P w0 (.bin op x' y') s K):QOk P o a ρ s K:=by
 simp only [evI] at h
 obtain ⟨z,hK0,hR⟩:=getC_R hE hx h
 obtain ⟨z',hK,hR'⟩:=getC_R hE hy hK0
 clear hK0
 cases z <;> simp only at hK
 case val v =>
  cases z' <;> simp only at hK
  case val v' =>
   obtain ⟨r,hr,h1,hrun⟩:=bin1_run (P:=P) (x:=x) (y:=y) op t v v' hK
   refine ⟨_,r,hr,⟨rfl,h1⟩,fun w' => ?_⟩
   have:=hrun w'
   simp only [execOp,hop,hR.1,hR'.1]
   rw [Sem.run_bind,this,Result.andThen_ok]
   rfl
theorem chk_spec {b:Bool} {A:Prop} (h:chk b A):b=true∧A:=by
 cases b with
 | true=>exact ⟨rfl,h⟩
 | false=>exact h.elim
theorem q_bik (hE:EnvR ρ s.env a.tmps) {op:BinOp} {t u:TypeId} {x:Operand} {x':X} {d:IntKind} {n:Nat} {y:Operand} (hop:o.op = .binOp op t x y u) (hx:compX x=some x') (hy:compX y=some (.k (.int d n)))
 (hn:n≠0∨op = .shl∨op = .shr) (h:evI P w0 (.bik op d x' n) s K):QOk P o a ρ s K:=by
 simp only [evI] at h
 obtain ⟨k,m,hK,he⟩:=getI_R hE hx h
 have he':a.eval y = .int d n:=(get_R hE hy (y := .o (.c (.val (.int d n)))) rfl).1
 cases op <;> simp only [binK] at hK
 case quo =>
  obtain ⟨hk,hK2⟩:=chk_spec hK
  have:=sameK_eq hk
  subst this
  have hn':n≠0:=by rcases hn with h | h | h <;> first | omega | cases h
  exact ⟨_,_,hK2,⟨rfl,rfl⟩,fun w'=>by simp [execOp,hop,he,he',eqGuard_int,binOp,Op.intDiv,hn']⟩
 case rem =>
  obtain ⟨hk,hK2⟩:=chk_spec hK
  have:=sameK_eq hk
  subst this
  have hn':n≠0:=by rcases hn with h | h | h <;> first | omega | cases h
  exact ⟨_,_,hK2,⟨rfl,rfl⟩,fun w'=>by simp [execOp,hop,he,he',eqGuard_int,binOp,Op.intDiv,hn']⟩
 case shl=>exact ⟨_,_,hK,⟨rfl,rfl⟩,fun w'=>by simp [execOp,hop,he,he',eqGuard_int,binOp,Op.shift,show ¬ (n:Int)<0 by omega]⟩
 case shr=>exact ⟨_,_,hK,⟨rfl,rfl⟩,fun w'=>by simp [execOp,hop,he,he',eqGuard_int,binOp,Op.shift,show ¬ (n:Int)<0 by omega]⟩
end
end Go.Vc
end
section
namespace Go.Vc
open Go.RowKit (Below)
section
variable {P:Program} {w0:World} {ρ:Ren} {s:S} {K:AV→S→Prop} {a:Act} {o:Oper}
theorem sizeT_spec {t:TypeId} {n:Nat} (h:sizeT P t=some n):∃ i,P.info? t=some i∧i.size=n:=by
 unfold sizeT at h
 cases hi:P.info? t with
 | none=>simp [hi] at h
 | some i=>exact ⟨i,rfl,by simpa [hi] using h⟩
theorem run_sizeT {t:TypeId} {n:Nat} (h:sizeT P t=some n) (w:World):(sizeOf t).run P w = .ok n w:=by
 obtain ⟨i,hi,rfl⟩:=sizeT_spec h
 simp [sizeOf,typeInfo,hi]
theorem aggT_spec {t:TypeId} {n:Option Nat} (h:aggT P t=some n):(n=none ∧ ∀ w,(isAgg t).run P w = .ok false w) ∨ ∃ m,n=some m∧sizeT P t=some m ∧ ∀ w,(isAgg t).run P w = .ok true w:=by
 unfold aggT at h
 split at h
 ·rename_i fs hu
  cases hs:sizeT P t with
  | none=>simp [hs] at h
  | some m=>simp only [hs,Option.map_some,Option.some.injEq] at h; exact .inr ⟨m,h.symm,rfl,fun w=>by simp [isAgg,run_underlying hu]⟩
 ·rename_i k e hu
  cases hs:sizeT P t with
  | none=>simp [hs] at h
  | some m=>simp only [hs,Option.map_some,Option.some.injEq] at h; exact .inr ⟨m,h.symm,rfl,fun w=>by simp [isAgg,run_underlying hu]⟩
 ·rename_i d h1 h2 hu
  simp only [Option.some.injEq] at h
  refine .inl ⟨h.symm,fun w => ?_⟩
  cases d <;> first
   | exact (h1 _ rfl).elim
   | exact (h2 _ _ rfl).elim
   | simp [isAgg,run_underlying hu]
 cases h
theorem q_beq (hE:EnvR ρ s.env a.tmps) {op:BinOp} {t u:TypeId} {x y:Operand} {x' y':X} {neg:Bool} (hop:o.op = .binOp op t x y u) (hu:P.underlying t=some .bool) (hn:(op = .eql∧neg=false)∨(op = .neq∧neg=true))
 (hx:compX x=some x') (hy:compX y=some y') (h:evI P w0 (.beq neg x' y') s K):QOk P o a ρ s K:=by
 simp only [evI] at h
 obtain ⟨b,h,he⟩:=getB_R hE hx h
 obtain ⟨b',h,he'⟩:=getB_R hE hy h
 have heq:∀ w',(Op.equal t (.bool b) (.bool b')).run P w' = .ok (b == b') w':=fun w'=>by
  have h1:∀ d:Nat,(Op.equalIn (d+1) t (.bool b) (.bool b')).run P w' = .ok (b == b') w':=fun d=>by simp [Op.equalIn,run_underlying hu]
  simp [Op.equal,Op.maxDepth,h1 9999]
 refine ⟨_,_,h,⟨rfl,rfl⟩,fun w' => ?_⟩
 rcases hn with ⟨rfl,rfl⟩ | ⟨rfl,rfl⟩
 ·simp [execOp,hop,he,he',eqGuard_bool,binOp,heq]
 simp [execOp,hop,he,he',eqGuard_bool,binOp,heq]
theorem compX_nil {y:Operand} (h:compX y=some (.k .nilIface)):y = .const .nilIface:=by
 cases y <;> simp only [compX] at h
 case tmp t=>cases h
 case const v =>
  split at h
  ·cases h; rfl
  cases h
 case global g=>cases h
 case func f=>cases h
theorem q_inl (hE:EnvR ρ s.env a.tmps) {op:BinOp} {t u:TypeId} {x y:Operand} {x':X} {ms:Array (String × TypeId)} {neg:Bool} (hop:o.op = .binOp op t x y u) (hu:P.underlying t=some (.interface ms)) (hn:(op = .eql∧neg=false)∨(op = .neq∧neg=true))
 (hx:compX x=some x') (hy:compX y=some (.k .nilIface)) (h:evI P w0 (.inl neg x') s K):QOk P o a ρ s K:=by
 simp only [evI] at h
 obtain ⟨z,hK,hR⟩:=getC_R hE hx h
 clear h
 obtain rfl:=compX_nil hy
 have hev:a.eval (.const .nilIface) = .nilIface:=rfl
 have key:∀ (v:Value) (b:Bool),(v = .nilIface∧b=true)∨((∃ t' u',v = .iface t' u')∧b=false) → ∀ w',(eqGuard op t x (.const .nilIface) v .nilIface).run P w' = .ok () w'∧(Op.equal t v .nilIface).run P w' = .ok b w':=by
  intro v b hv w'
  rcases hv with ⟨rfl,rfl⟩ | ⟨⟨t',u',rfl⟩,rfl⟩
  ·constructor
   ·unfold eqGuard
    rcases hn with ⟨rfl,_⟩ | ⟨rfl,_⟩ <;> simp
   have h1:∀ d:Nat,(Op.equalIn (d+1) t .nilIface .nilIface).run P w' = .ok true w':=fun d=>by simp [Op.equalIn,run_underlying hu]
   simp [Op.equal,Op.maxDepth,h1 9999]
  constructor
  ·unfold eqGuard
   rcases hn with ⟨rfl,_⟩ | ⟨rfl,_⟩ <;> simp
  have h1:∀ d:Nat,(Op.equalIn (d+1) t (.iface t' u') .nilIface).run P w' = .ok false w':=fun d=>by simp [Op.equalIn,run_underlying hu]
  simp [Op.equal,Op.maxDepth,h1 9999]
 have fin:∀ (v:Value) (b:Bool),a.eval x=v→(v = .nilIface∧b=true)∨((∃ t' u',v = .iface t' u')∧b=false)→K (.o (.c (.val (.bool (bif neg then !b else b))))) s→QOk P o a ρ s K:=by
  intro v b he hv hk
  have hk2:=key v b hv
  refine ⟨_,_,hk,⟨rfl,rfl⟩,fun w' => ?_⟩
  obtain ⟨g1,g2⟩:=hk2 w'
  have g1':(eqGuard op t x (.const .nilIface) (a.eval x) (a.eval (.const .nilIface))).run P w' = .ok () w':=by rw [he,hev]; exact g1
  rcases hn with ⟨rfl,rfl⟩ | ⟨rfl,rfl⟩
  ·simp only [execOp,hop,Sem.run_bind,g1',Result.andThen_ok]
   simp [he,hev,binOp,g2]
  simp only [execOp,hop,Sem.run_bind,g1',Result.andThen_ok]
  simp [he,hev,binOp,g2]
 cases z
 case val v =>
  cases v
  case iface t' u' =>
   refine fin _ false hR.1 (.inr ⟨⟨_,_,rfl⟩,rfl⟩) ?_
   cases neg <;> exact hK
  case nilIface =>
   refine fin _ true hR.1 (.inl ⟨rfl,rfl⟩) ?_
   cases neg <;> exact hK
  all_goals exact False.elim hK
 case ifc t' b off =>
  obtain ⟨g,_,hv⟩:=hR
  refine fin _ false hv (.inr ⟨⟨_,_,rfl⟩,rfl⟩) ?_
  cases neg <;> exact hK
 all_goals exact False.elim hK
theorem compX_mnil {y:Operand} (h:compX y=some (.k (.map none))):y = .const (.map none):=by
 cases y <;> simp only [compX] at h
 case tmp t=>cases h
 case const v =>
  split at h
  ·cases h; rfl
  cases h
 case global g=>cases h
 case func f=>cases h
theorem q_mnl (hE:EnvR ρ s.env a.tmps) {op:BinOp} {t u:TypeId} {x y:Operand} {x':X} {ke:TypeId} {ve:TypeId} {neg:Bool} (hop:o.op = .binOp op t x y u) (hu:P.underlying t=some (.map ke ve)) (hn:(op = .eql∧neg=false)∨(op = .neq∧neg=true))
 (hx:compX x=some x') (hy:compX y=some (.k (.map none))) (h:evI P w0 (.mnl neg x') s K):QOk P o a ρ s K:=by
 simp only [evI] at h
 obtain ⟨z,hK,hR⟩:=getC_R hE hx h
 clear h
 obtain rfl:=compX_mnil hy
 have hev:a.eval (.const (.map none)) = .map none:=rfl
 cases z
 case val v =>
  cases v
  case map m =>
   cases m
   case none =>
    have he:a.eval x = .map none:=hR.1
    have g2:∀ w',(Op.equal t (.map none) (.map none)).run P w' = .ok true w':=by
     intro w'
     have h1:∀ d:Nat,(Op.equalIn (d+1) t (.map none) (.map none)).run P w' = .ok true w':=fun d=>by simp [Op.equalIn,run_underlying hu]
     simp [Op.equal,Op.maxDepth,h1 9999]
    have g1:∀ w',(eqGuard op t x (.const (.map none)) (a.eval x) (a.eval (.const (.map none)))).run P w' = .ok () w':=by
     intro w'
     rw [he,hev]
     unfold eqGuard
     rcases hn with ⟨rfl,_⟩ | ⟨rfl,_⟩ <;> simp
    refine ⟨_,_,hK,⟨rfl,rfl⟩,fun w' => ?_⟩
    rcases hn with ⟨rfl,rfl⟩ | ⟨rfl,rfl⟩
    ·simp only [execOp,hop,Sem.run_bind,g1,Result.andThen_ok]
     simp [he,hev,binOp,g2]
    simp only [execOp,hop,Sem.run_bind,g1,Result.andThen_ok]
    simp [he,hev,binOp,g2]
   all_goals exact False.elim hK
  all_goals exact False.elim hK
 all_goals exact False.elim hK
theorem compX_pnl {y:Operand} (h:compX y=some (.k (.pointer none))):y = .const (.pointer none):=by
 cases y <;> simp only [compX] at h
 case tmp t=>cases h
 case const v =>
  split at h
  ·cases h; rfl
  cases h
 case global g=>cases h
 case func f=>cases h
theorem q_pnl (hE:EnvR ρ s.env a.tmps) {op:BinOp} {t u:TypeId} {x y:Operand} {x':X} {el:TypeId} {neg:Bool} (hop:o.op = .binOp op t x y u) (hu:P.underlying t=some (.pointer el)) (hn:(op = .eql∧neg=false)∨(op = .neq∧neg=true))
 (hx:compX x=some x') (hy:compX y=some (.k (.pointer none))) (h:evI P w0 (.pnl neg x') s K):QOk P o a ρ s K:=by
 simp only [evI] at h
 obtain ⟨z,hK,hR⟩:=getC_R hE hx h
 clear h
 obtain rfl:=compX_pnl hy
 have hev:a.eval (.const (.pointer none)) = .pointer none:=rfl
 have fin:∀ (p:Option Addr),a.eval x = .pointer p→K (.o (.c (.val (.bool (bif neg then !p.isNone else p.isNone))))) s→QOk P o a ρ s K:=by
  intro p he hk
  have g2:∀ w',(Op.equal t (.pointer p) (.pointer none)).run P w' = .ok p.isNone w':=by
   intro w'
   have h1:∀ d:Nat,(Op.equalIn (d+1) t (.pointer p) (.pointer none)).run P w' = .ok p.isNone w':=fun d=>by cases p <;> simp [Op.equalIn,run_underlying hu]
   simp [Op.equal,Op.maxDepth,h1 9999]
  have g1:∀ w',(eqGuard op t x (.const (.pointer none)) (a.eval x) (a.eval (.const (.pointer none)))).run P w' = .ok () w':=by
   intro w'
   rw [he,hev]
   unfold eqGuard
   rcases hn with ⟨rfl,_⟩ | ⟨rfl,_⟩ <;> simp
  refine ⟨_,_,hk,⟨rfl,rfl⟩,fun w' => ?_⟩
  rcases hn with ⟨rfl,rfl⟩ | ⟨rfl,rfl⟩
  ·simp only [execOp,hop,Sem.run_bind,g1,Result.andThen_ok]
   simp [he,hev,binOp,g2]
  simp only [execOp,hop,Sem.run_bind,g1,Result.andThen_ok]
  simp [he,hev,binOp,g2]
 cases z
 case val v =>
  cases v
  case pointer p =>
   cases p
   case none =>
    refine fin none hR.1 ?_
    cases neg <;> exact hK
   all_goals exact False.elim hK
  all_goals exact False.elim hK
 case ptr b off =>
  obtain ⟨g,_,hv⟩:=hR
  refine fin _ hv ?_
  cases neg <;> exact hK
 all_goals exact False.elim hK
theorem q_iaa (hE:EnvR ρ s.env a.tmps) {t e:TypeId} {x i:Operand} {x' i':X} {wd n:Nat} (hop:o.op = .indexAddr t x i) (hu:P.underlying t=some (.array n e)) (hs:sizeT P e=some wd) (hx:compX x=some x') (hi:compX i=some i')
 (h:evI P w0 (.iaa x' i' wd n) s K):QOk P o a ρ s K:=by
 simp only [evI] at h
 obtain ⟨z,hA1,hR⟩:=getC_R hE hx h
 clear h
 obtain ⟨d,k,h,hei⟩:=getI_R hE hi hA1
 clear hA1
 have hrun:∀ (ad:Addr) (w':World),a.eval x = .pointer (some ad)→0≤k→k<n→(execOp a.eval o).run P w' = .ok (.value (.pointer (some (ad.add (k.toNat*wd))))) w':=by
  intro ad w' he h0 h1
  simp [execOp,hop,he,hei,Instr.indexAt,Instr.sureAddr,asIntOf,run_underlying hu,run_sizeT hs,h0,h1]
 split at h
 case h_1 b off =>
  obtain ⟨⟨h0,h1⟩,h⟩:=h
  obtain ⟨g,hg,he⟩:=hR
  exact ⟨_,_,h,⟨g,hg,rfl⟩,fun w'=>by rw [hrun _ w' he h0 h1,addr_add,Nat.add_comm]⟩
 case h_2 ad =>
  obtain ⟨⟨h0,h1⟩,h⟩:=h
  exact ⟨_,_,h,⟨rfl,rfl⟩,fun w'=>by rw [hrun _ w' hR.1 h0 h1]⟩
 case h_3 b wd2 r j =>
  obtain ⟨hck,⟨h0,h1⟩,h⟩:=chk_spec h
  have hw:wd=1:=by simpa using hck
  obtain ⟨g,hg,he⟩:=hR
  refine ⟨_,_,h,⟨g,hg,rfl⟩,fun w' => ?_⟩
  rw [hrun _ w' he h0 h1,addr_add,hw,Nat.mul_one,Nat.add_assoc]
 case h_4=>exact h.elim
theorem q_un (hE:EnvR ρ s.env a.tmps) {op:UnOp} {t:TypeId} {x:Operand} {x':X} (hop:o.op = .unOp op t x) (hx:compX x=some x') (h:evI P w0 (.un op x') s K):QOk P o a ρ s K:=by
 simp only [evI] at h
 obtain ⟨z,h1,hR⟩:=getC_R hE hx h
 cases z <;> simp only at h1
 case val v =>
  obtain ⟨he,_⟩:=hR
  unfold un1 at h1
  cases op <;> simp only at h1 <;> cases v <;> simp only at h1
  case neg.int k n=>exact ⟨_,_,h1,⟨rfl,rfl⟩,fun w'=>by simp [execOp,hop,he,Op.unary,Op.intArith]⟩
  case not.bool b=>exact ⟨_,_,h1,⟨rfl,rfl⟩,fun w'=>by simp [execOp,hop,he,Op.unary]⟩
  case xor.int k n=>exact ⟨_,_,h1,⟨rfl,rfl⟩,fun w'=>by simp only [execOp,hop,he,Op.unary,Op.intBits,Sem.run_bind,Sem.run_pure,Result.andThen_ok]⟩
theorem q_cvi (hE:EnvR ρ s.env a.tmps) {src dst:TypeId} {k0 k:IntKind} {x:Operand} {x':X} (hop:o.op = .convert src dst x) (hs:P.underlying src=some (.int k0)) (hd:P.underlying dst=some (.int k)) (hx:compX x=some x')
 (h:evI P w0 (.cvi k x') s K):QOk P o a ρ s K:=by
 simp only [evI] at h
 obtain ⟨d,n,h,he⟩:=getI_R hE hx h
 exact ⟨_,_,h,⟨rfl,rfl⟩,fun w'=>by simp [execOp,hop,he,convert,run_underlying hs,run_underlying hd,Conv.intToInt]⟩
theorem q_cvf (hE:EnvR ρ s.env a.tmps) {src dst:TypeId} {sd:TypeDesc} {k:FloatKind} {x:Operand} {x':X} (hop:o.op = .convert src dst x) (hs:P.underlying src=some sd) (hd:P.underlying dst=some (.float k)) (hx:compX x=some x')
 (h:evI P w0 (.cvf k x') s K):QOk P o a ρ s K:=by
 simp only [evI] at h
 obtain ⟨c,h,hR⟩:=getC_R hE hx h
 cases c <;> simp only at h
 case val v =>
  obtain ⟨r,⟨h1,h2⟩,hK⟩:=h
  obtain ⟨he,_⟩:=hR
  refine ⟨_,_,hK,⟨rfl,h1⟩,fun w' => ?_⟩
  have h3:=h2 P w'
  cases v <;> first
   | (exfalso; simp [toFlt,stuck] at h3; done)
   | (simp only [toFlt] at h3; simp [execOp,hop,he,convert,run_underlying hs,run_underlying hd,h3])
theorem q_cfi (hE:EnvR ρ s.env a.tmps) {src dst:TypeId} {sd:TypeDesc} {k:IntKind} {x:Operand} {x':X} (hop:o.op = .convert src dst x) (hs:P.underlying src=some sd) (hd:P.underlying dst=some (.int k)) (hx:compX x=some x')
 (h:evI P w0 (.cfi k x') s K):QOk P o a ρ s K:=by
 simp only [evI] at h
 obtain ⟨c,h,hR⟩:=getC_R hE hx h
 cases c <;> simp only at h
 case val v =>
  obtain ⟨r,⟨h1,h2⟩,hK⟩:=h
  obtain ⟨he,_⟩:=hR
  refine ⟨_,_,hK,⟨rfl,h1⟩,fun w' => ?_⟩
  have h3:=h2 P w'
  cases v <;> first
   | (exfalso; simp [ofFlt,stuck] at h3; done)
   | (simp only [ofFlt] at h3; simp [execOp,hop,he,convert,run_underlying hs,run_underlying hd,h3])
theorem q_str (hE:EnvR ρ s.env a.tmps) {src dst:TypeId} {x:Operand} {x':X} (hop:o.op = .convert src dst x) (hs:P.underlying src=some .string) (hd:P.underlying dst=some .string) (hx:compX x=some x')
 (h:evI P w0 (.cps x') s K):QOk P o a ρ s K:=by
 simp only [evI] at h
 obtain ⟨b,h,he⟩:=getS_R hE hx h
 exact ⟨_,_,h,⟨rfl,rfl⟩,fun w'=>by simp [execOp,hop,he,convert,run_underlying hs,run_underlying hd]⟩
theorem q_ia (hE:EnvR ρ s.env a.tmps) {t e:TypeId} {x i:Operand} {x' i':X} {wd:Nat} (hop:o.op = .indexAddr t x i) (hu:P.underlying t=some (.slice e)) (hs:sizeT P e=some wd) (hx:compX x=some x') (hi:compX i=some i')
 (h:evI P w0 (.ia x' i' wd) s K):QOk P o a ρ s K:=by
 simp only [evI] at h
 obtain ⟨z,hA1,hR⟩:=getC_R hE hx h
 clear h
 obtain ⟨d,n,h,hei⟩:=getI_R hE hi hA1
 clear hA1
 have hrun:∀ (ad:Addr) (l c:Nat) (w':World),a.eval x = .slice (some ad) l c→0≤n→n<l→(execOp a.eval o).run P w' = .ok (.value (.pointer (some (ad.add (n.toNat*wd))))) w':=by
  intro ad l c w' he h0 h1
  simp [execOp,hop,he,hei,Instr.indexAt,asIntOf,run_underlying hu,run_sizeT hs,h0,h1]
 split at h
 case h_1 b l =>
  obtain ⟨⟨h0,h1⟩,h⟩:=h
  obtain ⟨e',he',hR⟩:=hR
  rcases hR with ⟨g,hg,he,_⟩ | ⟨_,hl,_⟩
  ·exact ⟨_,_,h,⟨g,by rw [at_of_get he',hg],rfl⟩,fun w'=>by rw [hrun _ _ _ w' he h0 h1,addr_add]; simp⟩
  omega
 case h_2 b wd' o' l c =>
  obtain ⟨hw,h⟩:=chk_spec h
  have hw2:wd'=wd:=by simpa using hw
  subst hw2
  obtain ⟨⟨h0,h1⟩,h⟩:=h
  obtain ⟨g,hg,he,_⟩:=hR
  exact ⟨_,_,h,⟨g,hg,rfl⟩,fun w'=>by rw [hrun _ _ _ w' he h0 h1,addr_add,Nat.add_mul]; simp⟩
 case h_3 ad l c =>
  obtain ⟨⟨h0,h1⟩,h⟩:=h
  exact ⟨_,_,h,⟨rfl,rfl⟩,fun w'=>by rw [hrun _ _ _ w' hR.1 h0 h1]⟩
 case h_4 A l c _ =>
  obtain ⟨⟨h0,h1⟩,ad,rfl,h⟩:=h
  exact ⟨_,_,h,⟨rfl,rfl⟩,fun w'=>by rw [hrun _ _ _ w' hR.1 h0 h1]⟩
 case h_5 b j l =>
  obtain ⟨⟨h0,h1⟩,h⟩:=h
  obtain ⟨e',ms,m,he',hms,hj,hR⟩:=hR
  rcases hR with ⟨g,hg,he,_⟩ | ⟨_,hl,_⟩
  ·exact ⟨_,_,h,⟨e',ms,m,g,he',hms,hj,hg,rfl⟩,fun w'=>by rw [hrun _ _ _ w' he h0 h1,addr_add]; simp⟩
  omega
 case h_6 b wd' o' l p =>
  obtain ⟨hw,h⟩:=chk_spec h
  have hw2:wd'=wd:=by simpa using hw
  subst hw2
  obtain ⟨⟨h0,h1⟩,h⟩:=h
  obtain ⟨e',he',hR⟩:=hR
  rcases hR with ⟨g,hg,he,hle,hp⟩ | ⟨_,hl,_⟩
  ·have hp':=hp (by omega)
   subst hp'
   exact ⟨_,_,h,⟨g,by rw [at_of_get he',hg],rfl⟩,fun w'=>by rw [hrun _ _ _ w' he h0 h1,addr_add,Nat.add_mul]; simp⟩
  omega
 case h_7=>exact h.elim
theorem q_si (hE:EnvR ρ s.env a.tmps) {t:TypeId} {x i:Operand} {x' i':X} (hop:o.op = .index t x i) (hu:P.underlying t=some .string) (hx:compX x=some x') (hi:compX i=some i')
 (h:evI P w0 (.si x' i') s K):QOk P o a ρ s K:=by
 simp only [evI] at h
 obtain ⟨b,h,he⟩:=getS_R hE hx h
 obtain ⟨d,n,h,hei⟩:=getI_R hE hi h
 obtain ⟨y,hy,h⟩:=h
 exact ⟨_,_,h,⟨rfl,rfl⟩,fun w'=>by simp only [execOp,hop,he,hei,Instr.index,asIntOf,Sem.run_bind,Sem.run_pure,Result.andThen_ok,run_underlying hu,hy]⟩
theorem run_call_builtin {b:Builtin} {args:Array Operand} {ts:Array TypeId} (hop:o.op = .call { callee := .builtin b,args:=args,argTypes:=ts }) (w:World) :
 (execOp a.eval o).run P w=(builtin b ts o.type (args.map fun | .const _=>true | _=>false) (args.map a.eval)).run P w:=by
 simp only [execOp,hop,resolve,invoke,Sem.run_bind,Sem.run_pure,Result.andThen_ok]
 cases b <;> rfl
theorem q_len (hE:EnvR ρ s.env a.tmps) {t:TypeId} {x:Operand} {x':X} {str:Bool} {args:Array Operand} {ts:Array TypeId} (hop:o.op = .call { callee := .builtin .len,args:=args,argTypes:=ts }) (ha:args.toList=[x]) (ht:ts.toList=[t])
 (hu:(str=true∧P.underlying t=some .string)∨(str=false ∧ ∃ e,P.underlying t=some (.slice e))) (hx:compX x=some x') (h:evI P w0 (.len str x') s K):QOk P o a ρ s K:=by
 simp only [evI] at h
 obtain ⟨z,h,hR⟩:=getC_R hE hx h
 have hargs:args.map a.eval = #[a.eval x]:=by
  apply Array.toList_inj.1
  simp [ha]
 have hts:ts = #[t]:=Array.toList_inj.1 (by simp [ht])
 have hslice:str=false → ∀ A n c w',a.eval x = .slice A n c→(execOp a.eval o).run P w' = .ok (.value (.int .i64 n)) w':=by
  intro hs A n c w' he
  rcases hu with ⟨h1,_⟩ | ⟨_,e,hu⟩
  ·rw [hs] at h1; cases h1
  rw [run_call_builtin hop,hargs,hts,he]
  simp [builtin,Builtin.len_,run_underlying hu,goInt]
 have hstring:str=true → ∀ b w',a.eval x = .string b→(execOp a.eval o).run P w' = .ok (.value (.int .i64 b.size)) w':=by
  intro hs b w' he
  rcases hu with ⟨_,hu⟩ | ⟨h1,_⟩
  ·rw [run_call_builtin hop,hargs,hts,he]
   simp [builtin,Builtin.len_,run_underlying hu,goInt]
  rw [hs] at h1; cases h1
 split at h
 case h_1 b l =>
  obtain ⟨e',he',hR⟩:=hR
  rcases hR with ⟨g,hg,he,_⟩ | ⟨_,hl,he⟩
  ·exact ⟨_,_,h,⟨rfl,rfl⟩,fun w'=>hslice rfl _ _ _ w' he⟩
  subst hl
  exact ⟨_,_,h,⟨rfl,rfl⟩,fun w'=>hslice rfl _ _ _ w' he⟩
 case h_2 b wd o' l c =>
  obtain ⟨g,hg,he,_⟩:=hR
  exact ⟨_,_,h,⟨rfl,rfl⟩,fun w'=>hslice rfl _ _ _ w' he⟩
 case h_3 A l c=>exact ⟨_,_,h,⟨rfl,rfl⟩,fun w'=>hslice rfl _ _ _ w' hR.1⟩
 case h_4 b j l =>
  obtain ⟨e',ms,m,he',hms,hj,hR⟩:=hR
  rcases hR with ⟨g,hg,he,_⟩ | ⟨_,hl,he⟩
  ·exact ⟨_,_,h,⟨rfl,rfl⟩,fun w'=>hslice rfl _ _ _ w' he⟩
  subst hl
  exact ⟨_,_,h,⟨rfl,rfl⟩,fun w'=>hslice rfl _ _ _ w' he⟩
 case h_5 b wd o' l p =>
  obtain ⟨e',he',hR⟩:=hR
  rcases hR with ⟨g,hg,he,_⟩ | ⟨_,hl,_,he⟩
  ·exact ⟨_,_,h,⟨rfl,rfl⟩,fun w'=>hslice rfl _ _ _ w' he⟩
  subst hl
  exact ⟨_,_,h,⟨rfl,rfl⟩,fun w'=>hslice rfl _ _ _ w' he⟩
 case h_6 b=>exact ⟨_,_,h,⟨rfl,rfl⟩,fun w'=>hstring rfl _ w' hR.1⟩
 case h_7=>exact h.elim
theorem q_cap (hE:EnvR ρ s.env a.tmps) {t:TypeId} {x:Operand} {x':X} {args:Array Operand} {ts:Array TypeId} (hop:o.op = .call { callee := .builtin .cap,args:=args,argTypes:=ts }) (ha:args.toList=[x]) (ht:ts.toList=[t])
 (hu:∃ e,P.underlying t=some (.slice e)) (hx:compX x=some x') (h:evI P w0 (.cap x') s K):QOk P o a ρ s K:=by
 simp only [evI] at h
 obtain ⟨z,h,hR⟩:=getC_R hE hx h
 have hargs:args.map a.eval = #[a.eval x]:=by
  apply Array.toList_inj.1
  simp [ha]
 have hts:ts = #[t]:=Array.toList_inj.1 (by simp [ht])
 have hslice:∀ A n c w',a.eval x = .slice A n c→(execOp a.eval o).run P w' = .ok (.value (.int .i64 c)) w':=by
  intro A n c w' he
  obtain ⟨e,hu⟩:=hu
  rw [run_call_builtin hop,hargs,hts,he]
  simp [builtin,Builtin.cap_,run_underlying hu,goInt]
 split at h
 case h_1 b l =>
  obtain ⟨e',he',hR⟩:=hR
  rcases hR with ⟨g,hg,he,hl⟩ | ⟨_,hl,he⟩
  ·exact ⟨_,_,h _ hl,⟨rfl,rfl⟩,fun w'=>hslice _ _ _ w' he⟩
  exact ⟨_,_,h 0 (by omega),⟨rfl,rfl⟩,fun w'=>hslice _ _ _ w' he⟩
 case h_2 b wd o' l c =>
  obtain ⟨g,hg,he,_⟩:=hR
  exact ⟨_,_,h,⟨rfl,rfl⟩,fun w'=>hslice _ _ _ w' he⟩
 case h_3 A l c=>exact ⟨_,_,h,⟨rfl,rfl⟩,fun w'=>hslice _ _ _ w' hR.1⟩
 case h_4=>exact h.elim
theorem q_sls (hE:EnvR ρ s.env a.tmps) {t:TypeId} {x:Operand} {lo hi:Option Operand} {x':X} {lo' hi':Option X} (hop:o.op = .slice t x lo hi none) (hu:P.underlying t=some .string) (hx:compX x=some x') (hlo:optX lo=some lo') (hhi:optX hi=some hi')
 (h:evI P w0 (.sls x' lo' hi') s K):QOk P o a ρ s K:=by
 simp only [evI] at h
 obtain ⟨b,h,he⟩:=getS_R hE hx h
 have hopt:∀ {q:Option Operand} {q':Option X} {d:Nat} {k:IntKind→Int→Prop},optX q=some q'→getI s.env (q'.getD (.k (.int .i64 d))) k →
  ∃ kd n,k kd n∧((q=none∧n=d) ∨ ∃ y,q=some y∧a.eval y = .int kd n):=by
  intro q q' d k hq hg
  cases q with
  | none =>
   simp only [optX,Option.some.injEq] at hq
   subst hq
   simp only [Option.getD_none,getI,X.get] at hg
   exact ⟨_,_,hg,.inl ⟨rfl,rfl⟩⟩
  | some y =>
   simp only [optX] at hq
   cases hy:compX y with
   | none=>simp [hy] at hq
   | some z =>
    simp only [hy,Option.map_some,Option.some.injEq] at hq
    subst hq
    simp only [Option.getD_some] at hg
    obtain ⟨kd,n,hk,hn⟩:=getI_R hE hy hg
    exact ⟨kd,n,hk,.inr ⟨y,rfl,hn⟩⟩
 obtain ⟨k1,l,h,hl⟩:=hopt (d:=0) hlo h
 obtain ⟨k2,r,h,hr⟩:=hopt hhi h
 obtain ⟨⟨h0,h1,h2⟩,h⟩:=h
 refine ⟨_,_,h,⟨rfl,rfl⟩,fun w' => ?_⟩
 have hr0:0≤r:=by omega
 have hrl:l≤r:=h1
 rcases hl with ⟨rfl,hl⟩ | ⟨y,rfl,hl⟩ <;> rcases hr with ⟨rfl,hr⟩ | ⟨z,rfl,hr⟩
 ·subst hl; subst hr
  simp [execOp,hop,he,Instr.sliceAt,Instr.slice,run_underlying hu,Instr.sliceBounds]
 ·subst hl
  simp [execOp,hop,he,hr,Instr.sliceAt,Instr.slice,run_underlying hu,Instr.sliceBounds,Instr.sliceBound,asIntOf,hr0,h2]
 ·subst hr
  simp [execOp,hop,he,hl,Instr.sliceAt,Instr.slice,run_underlying hu,Instr.sliceBounds,Instr.sliceBound,asIntOf,h0,h1]
 have e:l≤max r 0:=by omega
 simp [execOp,hop,he,hl,hr,Instr.sliceAt,Instr.slice,run_underlying hu,Instr.sliceBounds,Instr.sliceBound,asIntOf,h0,hr0,h2,e]
theorem foldl_min:∀ {zs:List Operand} {xs:List X} {v:Value} {lt:Bool} {k:Value→Prop},EnvR ρ s.env a.tmps→compXs zs=some xs→v.oneCell'=true→mnF lt v xs s.env k →
 ∃ r,k r∧r.oneCell'=true ∧ ∀ w',((zs.map a.eval).foldlM (bif lt then Builtin.min2 else Builtin.max2) v).run P w' = .ok r w'
 | [],xs,v,lt,k,hE,hx,h1,h=>by
  simp only [compXs,Option.some.injEq] at hx
  subst hx
  exact ⟨v,h,h1,fun w'=>by simp⟩
 | z::zs,xs,v,lt,k,hE,hx,h1,h=>by
  simp only [compXs] at hx
  cases hz:compX z with
  | none=>simp [hz] at hx
  | some z' =>
   cases hr:compXs zs with
   | none=>simp [hz,hr] at hx
   | some l =>
    simp only [hz,hr,Option.some.injEq] at hx
    subst hx
    simp only [mnF] at h
    cases v <;> simp only at h
    case int d n =>
     obtain ⟨d',m,h,he⟩:=getI_R hE hz h
     obtain ⟨r,hk,h2,hrun⟩:=foldl_min (zs:=zs) hE hr rfl h
     refine ⟨r,hk,h2,fun w' => ?_⟩
     have:=hrun w'
     cases lt
     ·simp only [cond_false] at this ⊢
      simp only [List.map_cons,List.foldlM_cons,he,Builtin.max2,Sem.run_bind,Sem.run_pure,Result.andThen_ok]
      exact this
     simp only [cond_true] at this ⊢
     simp only [List.map_cons,List.foldlM_cons,he,Builtin.min2,Sem.run_bind,Sem.run_pure,Result.andThen_ok]
     exact this
theorem q_mn (hE:EnvR ρ s.env a.tmps) {args:Array Operand} {ts:Array TypeId} {x:X} {xs:List X} (hop:o.op = .call { callee := .builtin .min,args:=args,argTypes:=ts }) (hx:compXs args.toList=some (x::xs))
 (h:evI P w0 (.mn x xs) s K):QOk P o a ρ s K:=by
 simp only [evI] at h
 cases hl:args.toList with
 | nil=>simp [hl,compXs] at hx
 | cons y zs =>
  rw [hl] at hx
  simp only [compXs] at hx
  cases hy:compX y with
  | none=>simp [hy] at hx
  | some y' =>
   cases hr:compXs zs with
   | none=>simp [hy,hr] at hx
   | some l =>
    simp only [hy,hr,Option.some.injEq,List.cons.injEq] at hx
    obtain ⟨rfl,rfl⟩:=hx
    obtain ⟨d,n,h,he⟩:=getI_R hE hy h
    obtain ⟨r,hk,h1,hrun⟩:=foldl_min (P:=P) hE hr rfl h
    refine ⟨_,_,hk,⟨rfl,h1⟩,fun w' => ?_⟩
    rw [run_call_builtin hop]
    have:=hrun w'
    simp only [cond_true] at this
    simp only [builtin,Builtin.min_,Array.toList_map,hl,List.map_cons,he,Sem.run_bind,this,Result.andThen_ok]
    rfl
theorem q_mx (hE:EnvR ρ s.env a.tmps) {args:Array Operand} {ts:Array TypeId} {x:X} {xs:List X} (hop:o.op = .call { callee := .builtin .max,args:=args,argTypes:=ts }) (hx:compXs args.toList=some (x::xs))
 (h:evI P w0 (.mx x xs) s K):QOk P o a ρ s K:=by
 simp only [evI] at h
 cases hl:args.toList with
 | nil=>simp [hl,compXs] at hx
 | cons y zs =>
  rw [hl] at hx
  simp only [compXs] at hx
  cases hy:compX y with
  | none=>simp [hy] at hx
  | some y' =>
   cases hr:compXs zs with
   | none=>simp [hy,hr] at hx
   | some l =>
    simp only [hy,hr,Option.some.injEq,List.cons.injEq] at hx
    obtain ⟨rfl,rfl⟩:=hx
    obtain ⟨d,n,h,he⟩:=getI_R hE hy h
    obtain ⟨r,hk,h1,hrun⟩:=foldl_min (P:=P) hE hr rfl h
    refine ⟨_,_,hk,⟨rfl,h1⟩,fun w' => ?_⟩
    rw [run_call_builtin hop]
    have:=hrun w'
    simp only [cond_false] at this
    simp only [builtin,Builtin.max_,Array.toList_map,hl,List.map_cons,he,Sem.run_bind,this,Result.andThen_ok]
    rfl
theorem q_ext (hE:EnvR ρ s.env a.tmps) {x:Operand} {x':X} {i:Nat} (hop:o.op = .extract x i) (hx:compX x=some x') (h:evI P w0 (.ext x' i) s K):QOk P o a ρ s K:=by
 simp only [evI] at h
 obtain ⟨z,_,h,hR⟩:=getV_R hE hx h
 cases z <;> simp only at h
 case t l =>
  obtain ⟨ys,he,hA⟩:=hR
  split at h
  ·rename_i y hy
   obtain ⟨v,hv,hR⟩:=hA.at_ i y hy
   refine ⟨_,v,h,hR,fun w' => ?_⟩
   have hv':ys[i]? = some v:=by simpa using hv
   simp [execOp,hop,he,Instr.extract,hv']
  exact h.elim
theorem q_mkf (hE:EnvR ρ s.env a.tmps) {g:FuncId} {first caps:Array Operand} {xs:List X} (hop:o.op = .makeFunc (.func g) first caps) (hf:first.size=0) (hx:compXs caps.toList=some xs) (h:evI P w0 (.mkf g xs) s K):QOk P o a ρ s K:=by
 simp only [evI] at h
 obtain ⟨l,h,hA⟩:=getCs_R hE hx h
 have hgp:∀ {l:List CV} {vs:List Value} {k:List (Nat × Nat)→Prop},getP l k→All2 (CV.R ρ) l vs → ∃ ps,k ps∧All2 (fun (c:Nat × Nat) v => ∃ h,ρ.at c.1=some h∧v=Value.pointer (some ⟨h,c.2,none⟩)) ps vs:=by
  intro l
  induction l with
  | nil=>intro vs k h hA; cases hA; exact ⟨[],h,.nil⟩
  | cons c r ih =>
   intro vs k h hA
   cases hA with
   | cons ha hr =>
    cases c <;> simp only [getP] at h
    case ptr b o' =>
     obtain ⟨ps,hk,hp⟩:=ih h hr
     exact ⟨_,hk,.cons ha hp⟩
 obtain ⟨ps,hk,hp⟩:=hgp h hA
 have hfirst:first = #[]:=Array.eq_empty_of_size_eq_zero hf
 subst hfirst
 exact ⟨_,_,hk,⟨caps.map a.eval,rfl,by simpa using hp⟩,fun w'=>by simp [execOp,hop,Instr.makeFunc]⟩
theorem q_mkm (hE:EnvR ρ s.env a.tmps) {name:String} {first caps:Array Operand} {x:Operand} {x':X} (hop:o.op = .makeFunc (.method name) first caps) (hf:first.toList=[x]) (hc:caps.toList=[]) (hx:compX x=some x') (h:evI P w0 (.mkm name x') s K):QOk P o a ρ s K:=by
 simp only [evI] at h
 obtain ⟨z,h,hR⟩:=getC_R hE hx h
 split at h
 case h_1 t b o' =>
  obtain ⟨g,hg,he⟩:=hR
  have e1:first = #[x]:=Array.toList_inj.1 (by simp [hf])
  have e2:caps = #[]:=Array.toList_inj.1 (by simp [hc])
  subst e1 e2
  exact ⟨_,_,h,⟨g,hg,rfl⟩,fun w'=>by simp [execOp,hop,Instr.makeFunc,he]⟩
 case h_2=>exact h.elim
theorem q_mkg (hE:EnvR ρ s.env a.tmps) {f:FuncId} {first caps:Array Operand} {x:Operand} {x':X} (hop:o.op = .makeFunc (.func f) first caps) (hf:first.toList=[x]) (hc:caps.toList=[]) (hx:compX x=some x') (h:evI P w0 (.mkg f x') s K):QOk P o a ρ s K:=by
 simp only [evI] at h
 obtain ⟨z,h,hR⟩:=getC_R hE hx h
 split at h
 case h_1 b o' =>
  obtain ⟨g,hg,he⟩:=hR
  have e1:first = #[x]:=Array.toList_inj.1 (by simp [hf])
  have e2:caps = #[]:=Array.toList_inj.1 (by simp [hc])
  subst e1 e2
  exact ⟨_,_,h,⟨g,hg,rfl⟩,fun w'=>by simp [execOp,hop,Instr.makeFunc,he]⟩
 case h_2=>exact h.elim
theorem q_mki (hE:EnvR ρ s.env a.tmps) {t:TypeId} {x:Operand} {x':X} (hop:o.op = .makeInterface t x) {d:TypeDesc} (hu:P.underlying t=some d) (hd:∀ ms,d ≠ .interface ms) (hx:compX x=some x') (h:evI P w0 (.mki t x') s K):QOk P o a ρ s K:=by
 simp only [evI] at h
 obtain ⟨z,h,hR⟩:=getC_R hE hx h
 have hrun:∀ v w',a.eval x=v→(execOp a.eval o).run P w' = .ok (.value (.iface t v)) w':=by
  intro v w' he
  simp only [execOp,hop,he,Instr.makeInterface,Sem.run_bind,run_underlying hu,Result.andThen_ok]
  cases d <;> first | exact absurd rfl (hd _) | rfl
 split at h
 case h_1 b o' =>
  obtain ⟨g,hg,he⟩:=hR
  exact ⟨_,_,h,⟨g,hg,rfl⟩,fun w'=>hrun _ w' he⟩
 case h_2 v=>exact ⟨_,_,h,⟨rfl,rfl⟩,fun w'=>hrun _ w' hR.1⟩
 case h_3=>exact h.elim
end
end Go.Vc
end
section
namespace Go.Vc
open Go.RowKit (Below)
section
variable {P:Program} {w0:World} {ρ:Ren} {s:S} {K:AV→S→Prop} {a:Act} {o:Oper}
theorem CV.norm_isV {c:CV} (h:c.isV=false):c.norm=c ∨ ∃ b,c = .kb b:=by
 cases c <;> first | exact .inl rfl | exact .inr ⟨_,rfl⟩
theorem All2.same {l:List CV} {vs us:List Value} (hs:l.all CV.sure=true) (h:All2 (CV.R ρ) l vs) (k:All2 (CV.R ρ) l us):vs=us:=by
 induction h generalizing us with
 | nil=>cases k; rfl
 | cons ha _ ih =>
  cases k with
  | cons hb hk =>
   simp only [List.all_cons,Bool.and_eq_true] at hs
   rw [CV.R.same hs.1 ha hb,ih hs.2 hk]
theorem one_spec {k:CV→Prop} {l:List CV} (h:one k l):∃ x,l=[x]∧k x:=by
 unfold one at h
 split at h
 ·exact ⟨_,rfl,h⟩
 exact h.elim
theorem ld1_sound {H:List Blk} {w:World} (hC:RH w0 ρ H w) {c:CV} {n:Option Nat} {k:A1→Prop} (h:ld1 w0 H c n k) {v:Value} (hv:c.R ρ v) :
 ∃ ad y vs,v = .pointer (some ad)∧k y∧All2 (CV.R ρ) y.cells vs∧vs.length=n.getD 1∧(∀ j u,vs[j]? = some u→w.cell? (ad.add j)=some u)∧(c.isV=true → ∀ j u,vs[j]? = some u→w0.cell? (ad.add j)=some u) ∧
  (n=none → ∃ x,y = .c x)∧(∀ m,n=some m → ∃ xs,y = .a xs):=by
 unfold ld1 at h
 split at h
 ·obtain ⟨ad,cs,vs,h1,h2,h3,h4,h5,h6⟩:=ldn_sound hC h hv
  obtain ⟨x,rfl,hk⟩:=one_spec h2
  have hkx:k (.c x):=by
   split at hk
   ·exact hk.elim
   ·exact hk.elim
   exact hk
  exact ⟨ad,.c x,vs,h1,hkx,h3,h4,h5,h6,(fun _=>⟨x,rfl⟩),(fun m hm=>by cases hm)⟩
 obtain ⟨ad,cs,vs,h1,h2,h3,h4,h5,h6⟩:=ldn_sound hC h hv
 exact ⟨ad,.a cs,vs,h1,h2,h3,h4,h5,h6,(fun hm=>by cases hm),fun m _=>⟨cs,rfl⟩⟩
theorem q_ld (hE:EnvR ρ s.env a.tmps) {w:World} (hC:RH w0 ρ s.H w) {t:TypeId} {x:Operand} {x':X} {n:Option Nat} (hop:o.op = .load t x) (ha:aggT P t=some n) (hx:compX x=some x') (h:evI P w0 (.ld x' n) s K) :
 ∃ y v,∃ C:World→Prop,K (.o y) s∧y.R ρ v∧C w∧(∀ w',C w'→(execOp a.eval o).run P w' = .ok (.value v) w') ∧
  ∀ ρ' H' w',RH w0 ρ' H' w'→(∃ t,ρ' = ρ ++ t)→(∀ c,x'.get s.env=some (.o (.c c))→c.isV=false→ld1 w0 H' c n (fun b=>b=y∧y.sure=true))→C w':=by
 simp only [evI] at h
 obtain ⟨c,hg,h,hR⟩:=getC_R' hE hx h
 obtain ⟨ad,y,vs,he,hK,hA,hl,hcell,hext,hn1,hn2⟩:=ld1_sound hC h hR
 have hback:∀ ρ' H' w',RH w0 ρ' H' w'→(∃ t,ρ' = ρ ++ t)→(∀ c,x'.get s.env=some (.o (.c c))→c.isV=false→ld1 w0 H' c n (fun b=>b=y∧y.sure=true)) → ∀ j u,vs[j]? = some u→w'.cell? (ad.add j)=some u:=by
  rintro ρ' H' w' hC' ⟨t,rfl⟩ hk
  cases hv:c.isV with
  | true =>
   have hcn:c.norm.isV=true:=by cases c <;> first | exact hv | cases hv | rfl
   intro j u hu
   have h0:=hext hcn j u hu
   rw [hC'.base.cell (World.block_lt_of_cell? w0 _ h0)]
   exact h0
  | false =>
   have hl1:=hk c hg hv
   rcases CV.norm_isV hv with hn | ⟨b,rfl⟩
   ·rw [hn] at hR
    obtain ⟨ad',y',vs',he',⟨rfl,hs⟩,hA',_,hcell',_⟩:=ld1_sound hC' hl1 (hR.more t)
    rw [he] at he'
    cases he'
    have hsure:y'.cells.all CV.sure=true:=by
     cases y' with
     | c x=>simpa [A1.cells,A1.sure] using hs
     | a xs=>simpa [A1.cells,A1.sure] using hs
    have:=All2.same hsure (hA.mono fun _ _=>CV.R.more t) hA'
    subst this
    exact hcell'
   cases n <;> exact hl1.elim
 refine ⟨y,?_⟩
 rcases aggT_spec ha with ⟨rfl,hag⟩ | ⟨m,rfl,hsz,hag⟩
 ·obtain ⟨z,rfl⟩:=hn1 rfl
  simp only [A1.cells] at hA
  obtain ⟨u,rfl,hzu⟩:∃ u,vs=[u]∧z.R ρ u:=by cases hA with | cons hz hr=>cases hr; exact ⟨_,rfl,hz⟩
  refine ⟨u,fun w' => ∀ j r,[u][j]? = some r→w'.cell? (ad.add j)=some r,hK,hzu,hcell,fun w' hw => ?_,hback⟩
  have h0:=hw 0 u rfl
  have h1:ad.add 0=ad:=rfl
  rw [h1] at h0
  simp [execOp,hop,he,Instr.loadAt,Instr.sureAddr,loadVar,hag,h0]
 obtain ⟨cs,rfl⟩:=hn2 m rfl
 refine ⟨.agg vs.toArray,fun w' => ∀ j r,vs[j]? = some r→w'.cell? (ad.add j)=some r,hK,⟨vs.toArray,rfl,by simpa [A1.cells] using hA⟩,hcell,fun w' hw => ?_,hback⟩
 have hlc:=run_loadCells_list (P:=P) (w:=w') ad vs (fun j v hv=>hw j v hv)
 simp only [Option.getD_some] at hl
 rw [hl] at hlc
 simp [execOp,hop,he,Instr.loadAt,Instr.sureAddr,loadVar,hag,run_sizeT hsz,hlc]
theorem q_ixa (hE:EnvR ρ s.env a.tmps) {t:TypeId} {x i:Operand} {x' i':X} {len:Nat} {e:TypeId} (hop:o.op = .index t x i) (hu:P.underlying t=some (.array len e)) (ha:aggT P e=some none) (hz:sizeT P e=some 1) (hx:compX x=some x') (hi:compX i=some i')
 (h:evI P w0 (.ixa x' i' len) s K):QOk P o a ρ s K:=by
 simp only [evI] at h
 obtain ⟨z,h,hR⟩:=get1_R hE hx h
 cases z <;> simp only at h
 case a xs =>
  obtain ⟨ys,he,hA⟩:=hR
  obtain ⟨d,n,h,hei⟩:=getI_R hE hi h
  obtain ⟨⟨h0,h1⟩,c,hc,h⟩:=h
  obtain ⟨v,hv,hcR⟩:=hA.at_ _ _ hc
  have hv':ys[n.toNat]? = some v:=by simpa using hv
  rcases aggT_spec ha with ⟨_,hag⟩ | ⟨m,hm,_,_⟩
  ·refine ⟨_,v,h,hcR,fun w' => ?_⟩
   simp only [execOp,hop,he,hei,Instr.index,asIntOf,Sem.run_bind,Sem.run_pure,Result.andThen_ok,run_underlying hu]
   rw [if_pos ⟨h0,h1⟩]
   simp [part,hag,run_sizeT hz,hv']
  cases hm
theorem q_fld (hE:EnvR ρ s.env a.tmps) {t:TypeId} {x:Operand} {f:Nat} {x':X} {fs:Array Field} {fd:Field} {n:Option Nat} (hop:o.op = .field t x f) (hx:compX x=some x') (hu:P.underlying t=some (.struct fs)) (hf:fs[f]? = some fd)
 (ha:aggT P fd.type=some n) (h:evI P w0 (.fld x' fd.offset n) s K):QOk P o a ρ s K:=by
 simp only [evI] at h
 obtain ⟨z,h,hR⟩:=get1_R hE hx h
 cases z <;> simp only at h
 case a xs =>
  obtain ⟨ys,he,hA⟩:=hR
  obtain ⟨h1,h⟩:=dropF_spec h
  have hpart:∀ w',(execOp a.eval o).run P w'=((part fd.type ys fd.offset).run P w').andThen fun v w' => .ok (.value v) w':=fun w'=>by
   simp only [execOp,hop,he,Instr.field,asAgg,Sem.run_bind,run_underlying hu,Result.andThen_ok,hf,Sem.run_pure]
  rcases aggT_spec ha with ⟨rfl,hag⟩ | ⟨m,rfl,hsz,hag⟩
  ·simp only at h
   obtain ⟨h2,h⟩:=takeF_spec h
   obtain ⟨c,hc,h⟩:=one_spec h
   have hget:xs[fd.offset]? = some c:=by
    have:(xs.drop fd.offset)[0]? = some c:=by
     have:=congrArg (fun l=>l[0]?) hc
     simpa [List.getElem?_take] using this
    simpa using this
   obtain ⟨v,hv,hcR⟩:=hA.at_ _ _ hget
   have hv':ys[fd.offset]? = some v:=by simpa using hv
   exact ⟨_,v,h,hcR,fun w'=>by rw [hpart]; simp [part,hag,hv']⟩
  simp only at h
  obtain ⟨h2,h⟩:=takeF_spec h
  refine ⟨_,.agg (ys.extract fd.offset (fd.offset+m)),h,⟨_,rfl,?_⟩,fun w'=>by rw [hpart]; simp [part,hag,run_sizeT hsz]⟩
  have:=(hA.drop_ fd.offset).take_ m
  simpa [Array.toList_extract,List.extract_eq_take_drop] using this
end
end Go.Vc
end
section
namespace Go.Vc
open Go.RowKit (Below)
section
variable {P:Program} {w0:World} {ρ:Ren} {s:S} {K:AV→S→Prop} {a:Act} {o:Oper}
theorem A1.R.cells {y:A1} {v:Value} (h:y.R ρ v):All2 (CV.R ρ) y.cells v.cells.toList:=by
 cases y with
 | c x =>
  have h1:=CV.R.one h
  have h2:v.cells = #[v]:=by cases v <;> first | rfl | cases h1
  rw [h2]
  exact .cons h .nil
 | a xs =>
  obtain ⟨ys,rfl,h⟩:=h
  exact h
theorem A1.R.size {y:A1} {v:Value} (h:y.R ρ v):v.cells.size=y.cells.length:=by rw [h.cells.length]; simp
theorem fill_list:∀ (l:List Value) (cells:Array Value) (off k:Nat),off+k+l.length≤cells.size →
 ((l.zipIdx k).foldl (fun cs p=>cs.setIfInBounds (off+p.2) p.1) cells).toList=cells.toList.take (off+k)++(l++cells.toList.drop (off+k+l.length))
 | [],cells,off,k,h=>by simp
 | v::l,cells,off,k,h=>by
  simp only [List.zipIdx_cons,List.foldl_cons]
  have hlt:off+k<cells.toList.length:=by simp at h ⊢; omega
  rw [fill_list l _ off (k+1) (by simp at h ⊢; omega)]
  have e1:off+(k+1)=(off+k)+1:=by omega
  rw [e1,Array.toList_setIfInBounds]
  have e2:(cells.toList.set (off+k) v).take (off+k+1)=cells.toList.take (off+k)++[v]:=by
   rw [List.take_succ_eq_append_getElem (by simpa using hlt)]
   simp [List.take_set_of_le]
  have e3:(cells.toList.set (off+k) v).drop (off+k+1+l.length)=cells.toList.drop (off+k+(v::l).length):=by
   rw [List.drop_set_of_lt (by omega)]
   congr 1
   simp
   omega
  rw [e2,e3]
  simp
theorem fill_sound (hE:EnvR ρ s.env a.tmps) {place:Nat→Option (Nat × Nat)}:∀ {ps:List (Nat × Operand)} {parts:List (Nat × Nat × X)} {z:List CV} {cells:Array Value} {k:List CV→Prop},
 compParts place ps=some parts→fillF z parts s.env k→All2 (CV.R ρ) z cells.toList →
 ∃ z' cells',k z'∧All2 (CV.R ρ) z' cells'.toList∧Instr.fill place cells (ps.map fun p=>(p.1,a.eval p.2))=some cells'
 | [],parts,z,cells,k,hp,h,hA=>by
  simp only [compParts,Option.some.injEq] at hp
  subst hp
  exact ⟨z,cells,h,hA,rfl⟩
 | (i,x)::r,parts,z,cells,k,hp,h,hA=>by
  simp only [compParts] at hp
  cases h1:place i with
  | none=>simp [h1] at hp
  | some on =>
   obtain ⟨off,n⟩:=on
   cases h2:compX x with
   | none=>simp [h1,h2] at hp
   | some y =>
    cases h3:compParts place r with
    | none=>simp [h1,h2,h3] at hp
    | some l =>
     simp only [h1,h2,h3,Option.some.injEq] at hp
     subst hp
     simp only [fillF] at h
     obtain ⟨v,h,hR⟩:=get1_R hE h2 h
     obtain ⟨hn,h⟩:=chk_spec h
     have hn:v.cells.length=n:=by simpa using hn
     obtain ⟨hle,h⟩:=putF_spec h
     have hsz:=hR.size
     have hcs:=hA.length
     have hA2:All2 (CV.R ρ) (z.take off++(v.cells++z.drop (off+v.cells.length))) ((a.eval x).cells.zipIdx.foldl (fun cs (c,j)=>cs.setIfInBounds (off+j) c) cells).toList:=by
      have e:=fill_list (a.eval x).cells.toList cells off 0 (by simp at hcs ⊢; omega)
      have e2:(a.eval x).cells.zipIdx.foldl (fun cs (c,j)=>cs.setIfInBounds (off+j) c) cells=((a.eval x).cells.toList.zipIdx 0).foldl (fun cs p=>cs.setIfInBounds (off+p.2) p.1) cells:=by
       rw [← Array.foldl_toList]
       simp
      rw [e2,e]
      have hl:v.cells.length=(a.eval x).cells.toList.length:=by simp [hsz]
      rw [hl]
      exact (hA.take_ _).append (hR.cells.append (by simpa using hA.drop_ (off+(a.eval x).cells.toList.length)))
     obtain ⟨z',cells',hk,hA3,hf⟩:=fill_sound hE h3 h hA2
     refine ⟨z',cells',hk,hA3,?_⟩
     simp only [List.map_cons,Instr.fill,h1]
     have hc1:(decide ((a.eval x).cells.size≠n) || decide (off+(a.eval x).cells.size>cells.size))=false:=by
      simp at hcs
      simp only [Bool.or_eq_false_iff,decide_eq_false_iff_not]
      exact ⟨by omega,by omega⟩
     rw [hc1]
     exact hf
theorem zeroT_spec {t:TypeId} {z:List Value} (h:zeroT P t=some z):(∀ u∈z,u.oneCell'=true) ∧ ∃ v,v.cells.toList=z ∧ ∀ w,(zeroValue t).run P w = .ok v w:=by
 unfold zeroT at h
 split at h
 ·rename_i v hv
  split at h
  ·rename_i h1
   simp only [Option.some.injEq] at h
   subst h
   refine ⟨fun u hu => ?_,v,rfl,fun w => ?_⟩
   ·exact List.all_eq_true.1 h1 u hu
   cases hi:P.info? t with
   | none=>simp [hi] at hv
   | some i =>
    simp only [hi,Option.bind_some] at hv
    simp [zeroValue,typeInfo,hi,hv]
  cases h
 cases h
theorem zero_R {z:List Value} (h:∀ u∈z,u.oneCell'=true):All2 (CV.R ρ) (z.map .val) z:=by
 induction z with
 | nil=>exact .nil
 | cons u r ih=>exact .cons ⟨rfl,h u (by simp)⟩ (ih fun v hv=>h v (by simp [hv]))
theorem placesOf_spec:∀ {fs:List Field} {pl:List (Nat × Nat)},placesOf P fs=some pl → ∀ w,(fs.mapM fun f=>do pure (f.offset,← sizeOf f.type):Sem (List (Nat × Nat))).run P w = .ok pl w
 | [],pl,h,w=>by simp only [placesOf,Option.some.injEq] at h; subst h; rfl
 | f::r,pl,h,w=>by
  simp only [placesOf] at h
  cases h1:sizeT P f.type with
  | none=>simp [h1] at h
  | some n =>
   cases h2:placesOf P r with
   | none=>simp [h1,h2] at h
   | some l =>
    simp only [h1,h2,Option.some.injEq] at h
    subst h
    have:=placesOf_spec h2 w
    simp only [List.mapM_cons,Sem.run_bind,run_sizeT h1,Result.andThen_ok,Sem.run_pure,this]
theorem q_bld_struct (hE:EnvR ρ s.env a.tmps) {t:TypeId} {ps:Array (Nat × Operand)} {fs:Array Field} {z:List Value} {pl:List (Nat × Nat)} {parts:List (Nat × Nat × X)} (hop:o.op = .build t ps) (hu:P.underlying t=some (.struct fs))
 (hz:zeroT P t=some z) (hpl:placesOf P fs.toList=some pl) (hp:compParts (pl[·]?) ps.toList=some parts) (h:evI P w0 (.bld z parts) s K):QOk P o a ρ s K:=by
 simp only [evI] at h
 have h:=mapF_spec h
 obtain ⟨h1,v,hv,hzr⟩:=zeroT_spec hz
 obtain ⟨z',cells',hk,hA,hf⟩:=fill_sound hE hp h (cells:=v.cells) (by rw [hv]; exact zero_R h1)
 refine ⟨_,.agg cells',hk,⟨_,rfl,hA⟩,fun w' => ?_⟩
 have hpm:=placesOf_spec hpl w'
 simp only [execOp,hop,Instr.build,Sem.run_bind,hzr,Result.andThen_ok,run_underlying hu,Array.mapM_eq_mapM_toList,Sem.run_map,hpm,Array.toList_map]
 have e:(fun (x:Nat)=>(pl.toArray)[x]?)=(fun x=>pl[x]?):=by funext x; simp
 rw [e]
 have e2:List.map (fun x:Nat × Operand=>(x.1,a.eval x.2)) ps.toList=ps.toList.map fun p=>(p.1,a.eval p.2):=rfl
 simp only [hf,Sem.run_pure,Result.andThen_ok]
theorem q_bld_array (hE:EnvR ρ s.env a.tmps) {t e:TypeId} {len n:Nat} {ps:Array (Nat × Operand)} {z:List Value} {parts:List (Nat × Nat × X)} (hop:o.op = .build t ps) (hu:P.underlying t=some (.array len e))
 (hz:zeroT P t=some z) (hs:sizeT P e=some n) (hp:compParts (fun i=>some (i*n,n)) ps.toList=some parts) (h:evI P w0 (.bld z parts) s K):QOk P o a ρ s K:=by
 simp only [evI] at h
 have h:=mapF_spec h
 obtain ⟨h1,v,hv,hzr⟩:=zeroT_spec hz
 obtain ⟨z',cells',hk,hA,hf⟩:=fill_sound hE hp h (cells:=v.cells) (by rw [hv]; exact zero_R h1)
 refine ⟨_,.agg cells',hk,⟨_,rfl,hA⟩,fun w' => ?_⟩
 simp only [execOp,hop,Instr.build,Sem.run_bind,hzr,Result.andThen_ok,run_underlying hu,run_sizeT hs,Array.toList_map,hf,Sem.run_pure]
variable {cx:Cx} {w:World}
def EOk (P:Program) (w0:World) (cx:Cx) (o:Oper) (a:Act) (ρ:Ren) (s:S) (K:AV→S→Prop) (w:World):Prop :=
 ∀ (next:Act→World→Prop) (Q:Exit→Act→World→Prop),(∀ x s' t v w',K x s'→s'.env=s.env→x.R (ρ ++ t) v→Core w0 cx (ρ ++ t) s'.H w'→next (a.put o.dst v) w')→o.wp P a w next Q
theorem eok_of_run (h:∃ x s' t v w',K x s'∧s'.env=s.env∧x.R (ρ ++ t) v∧Core w0 cx (ρ ++ t) s'.H w'∧(execOp a.eval o).run P w = .ok (.value v) w'):EOk P w0 cx o a ρ s K w:=by
 intro next Q hn
 obtain ⟨x,s',t,v,w',hK,he,hR,hC,hr⟩:=h
 unfold Oper.wp
 rw [hr]
 exact hn x s' t v w' hK he hR hC
theorem eok_of_skip (h:∃ s' t w',K (.t []) s'∧s'.env=s.env∧Core w0 cx (ρ ++ t) s'.H w'∧(execOp a.eval o).run P w = .ok .skip w'):EOk P w0 cx o a ρ s K w:=by
 intro next Q hn
 obtain ⟨s',t,w',hK,he,hC,hr⟩:=h
 unfold Oper.wp
 rw [hr]
 exact hn (.t []) s' t undef w' hK he ⟨#[],rfl,.nil⟩ hC
end
end Go.Vc
end
section
namespace Go.Vc
open Go.RowKit (Below)
section
variable {P:Program} {w0:World} {cx:Cx} {ρ:Ren} {H:List Blk} {w:World}
theorem Core.next (hC:Core w0 cx ρ H w) {t:Ren} {H':List Blk} {w':World} (hl:(ρ ++ t).length=H'.length) (hfr:FrameP w (image ρ H) w')
 (hok:∀ (b:Nat) (k:Blk) (e:Option Nat × Nat),H'[b]? = some k→(ρ ++ t)[b]? = some e→k.ok (ρ ++ t) e w')
 (hinj:∀ (b b':Nat) (k k':Blk) (g:Nat),H'[b]? = some k→H'[b']? = some k'→k.live=true→k'.live=true→Ren.own (ρ ++ t) b g→Ren.own (ρ ++ t) b' g→b=b')
 (him:∀ g,image (ρ ++ t) H' g→(image ρ H g∨w.heap.size≤g)∧g<w'.heap.size):Core w0 cx (ρ ++ t) H' w':=by
 obtain ⟨f1,f2,f3,f4,f5⟩:=hfr
 have hbase:Below w0.heap.size w0 w':=by
  refine ⟨f1.trans hC.rh.base.os,f2.trans hC.rh.base.tape,f3.trans hC.rh.base.output,Nat.le_trans hC.rh.base.size f4,fun k hk => ?_⟩
  have hkw:k<w.heap.size:=Nat.lt_of_lt_of_le hk hC.rh.base.size
  have hni:¬ image ρ H k:=fun h=>by have:=(hC.rh.lo k h).1; omega
  exact (f5 k hkw hni).trans (hC.rh.base.block k hk)
 refine ⟨⟨hl,hok,hinj,fun g hg => ?_,hbase⟩,?_,fun g hg => ?_,?_⟩
 ·obtain ⟨h1,h2⟩:=him g hg
  rcases h1 with h1 | h1
  ·exact ⟨(hC.rh.lo g h1).1,h2⟩
  exact ⟨Nat.le_trans hC.rh.base.size h1,h2⟩
 ·obtain ⟨g1,g2,g3,g4,g5⟩:=hC.fr
  refine ⟨f1.trans g1,f2.trans g2,f3.trans g3,Nat.le_trans g4 f4,fun i hi hF => ?_⟩
  have hiw:i<w.heap.size:=Nat.lt_of_lt_of_le hi g4
  have hni:¬ image ρ H i:=fun h=>by
   rcases hC.own i h with h | h
   ·exact hF h
   omega
  exact (f5 i hiw hni).trans (g5 i hi hF)
 ·obtain ⟨h1,_⟩:=him g hg
  rcases h1 with h1 | h1
  ·exact hC.own g h1
  exact .inr (Nat.le_trans hC.fr.2.2.2.1 h1)
 obtain ⟨u,hu⟩:=hC.pre
 exact ⟨u++t,by rw [hu,List.append_assoc]⟩
theorem FrameP.refl (w:World) (F:Nat→Prop):FrameP w F w:=⟨rfl,rfl,rfl,Nat.le_refl _,fun _ _ _=>rfl⟩
theorem image_get {b g:Nat} {k:Blk} (hb:H[b]? = some k) (hl:k.live=true) (hg:ρ.own b g):image ρ H g:=⟨b,k,hb,hl,hg⟩
theorem own_of_get {b:Nat} {e:Option Nat × Nat} (h:ρ[b]? = some e):ρ.own b=owns e:=by simp [Ren.own,h]
theorem own_of {b g:Nat} {e:Option Nat × Nat} (h:ρ[b]? = some e) (hg:owns e g):ρ.own b g:=by rw [own_of_get h]; exact hg
theorem own_append {t:Ren} {b:Nat} (hb:b < ρ.length):Ren.own (ρ ++ t) b = ρ.own b:=by unfold Ren.own; rw [List.getElem?_append_left hb]
theorem own_last {e:Option Nat × Nat}:Ren.own (ρ ++ [e]) ρ.length=owns e:=by unfold Ren.own; simp
theorem owns_some {g g' c:Nat} (h:owns (some g,c) g'):g=g':=by
 rcases h with h | ⟨h,_⟩
 ·exact Option.some.inj h
 cases h
theorem Core.set (hC:Core w0 cx ρ H w) {b g cap:Nat} {k k':Blk} (hb:H[b]? = some k) (hl:k.live=true) (hρ:ρ[b]? = some (some g,cap)) {w':World}
 (h1:w'.os=w.os) (h2:w'.tape=w.tape) (h3:w'.output=w.output) (h4:w'.heap.size=w.heap.size) (h5:∀ i,i≠g→w'.heap[i]? = w.heap[i]?) (hk:k'.ok ρ (some g,cap) w'):Core w0 cx ρ (H.set b k') w':=by
 have hat:ρ.own b g:=own_of hρ (.inl rfl)
 have hblt:b<H.length:=(List.getElem?_eq_some_iff.1 hb).1
 have hget:∀ (b':Nat) (q:Blk),(H.set b k')[b']? = some q→(b'=b∧q=k')∨(b'≠b∧H[b']? = some q):=by
  intro b' q hq
  by_cases hbb:b=b'
  ·subst hbb
   rw [List.getElem?_set_self hblt] at hq
   exact .inl ⟨rfl,(Option.some.inj hq).symm⟩
  rw [List.getElem?_set_ne hbb] at hq
  exact .inr ⟨fun h=>hbb h.symm,hq⟩
 have hlive:∀ (b':Nat) (q:Blk),(H.set b k')[b']? = some q→q.live=true → ∃ q',H[b']? = some q'∧q'.live=true:=by
  intro b' q hq hl'
  rcases hget b' q hq with ⟨rfl,_⟩ | ⟨_,h⟩
  ·exact ⟨k,hb,hl⟩
  exact ⟨q,h,hl'⟩
 have hres:=Core.next hC (t:=[]) (H':=H.set b k') (w':=w') (by simpa using hC.rh.len) ⟨h1,h2,h3,by omega,fun i _ hni=>h5 i fun he=>hni (he ▸ image_get hb hl hat)⟩
  (fun b' q e hq he=>by
   rw [List.append_nil] at he ⊢
   rcases hget b' q hq with ⟨rfl,rfl⟩ | ⟨hne,hq'⟩
   ·rw [hρ] at he; cases he; exact hk
   refine (hC.rh.ok b' q e hq' he).keep fun g' hg' hl'=>h5 g' fun heq=>hne ?_
   subst heq
   exact hC.rh.inj b' b q k g' hq' hb hl' hl (own_of he hg') hat)
  (fun b1 b2 q1 q2 g' hq1 hq2 hl1 hl2 hg1 hg2=>by
   rw [List.append_nil] at hg1 hg2
   obtain ⟨q1',hq1',hl1'⟩:=hlive b1 q1 hq1 hl1
   obtain ⟨q2',hq2',hl2'⟩:=hlive b2 q2 hq2 hl2
   exact hC.rh.inj b1 b2 q1' q2' g' hq1' hq2' hl1' hl2' hg1 hg2)
  (fun g' ⟨b',q,hq,hl',hg'⟩=>by
   rw [List.append_nil] at hg'
   obtain ⟨q',hq',hl''⟩:=hlive b' q hq hl'
   have:=image_get hq' hl'' hg'
   exact ⟨.inl this,by rw [h4]; exact (hC.rh.lo g' this).2⟩)
 rwa [List.append_nil] at hres
theorem image_app {k:Blk} {e:Option Nat × Nat} {g:Nat} (hl:ρ.length=H.length) (h:image (ρ ++ [e]) (H++[k]) g):image ρ H g∨(owns e g∧k.live=true):=by
 obtain ⟨b,q,hq,hl',hg⟩:=h
 rcases Nat.lt_or_ge b H.length with hb | hb
 ·rw [List.getElem?_append_left hb] at hq
  refine .inl ⟨b,q,hq,hl',?_⟩
  rwa [own_append (by omega)] at hg
 have hb2:b<(H++[k]).length:=(List.getElem?_eq_some_iff.1 hq).1
 have hbe:b = ρ.length:=by simp at hb2; omega
 subst hbe
 rw [own_last] at hg
 rw [hl,List.getElem?_append_right (Nat.le_refl _),Nat.sub_self] at hq
 simp only [List.getElem?_cons_zero,Option.some.injEq] at hq
 exact .inr ⟨hg,hq ▸ hl'⟩
theorem Core.push (hC:Core w0 cx ρ H w) {k:Blk} {cap:Nat} {w':World} {x:Obj} (hw1:w'.os=w.os) (hw2:w'.tape=w.tape) (hw3:w'.output=w.output) (hw4:w'.heap=w.heap.push x)
 (hk:k.ok (ρ ++ [(some w.heap.size,cap)]) (some w.heap.size,cap) w'):Core w0 cx (ρ ++ [(some w.heap.size,cap)]) (H++[k]) w':=by
 have hold:∀ i,i<w.heap.size→w'.heap[i]? = w.heap[i]? := fun i hi=>by rw [hw4,Array.getElem?_push,if_neg (by omega)]
 have hlen:=hC.rh.len
 have hlast:∀ (b:Nat) (q:Blk),(H++[k])[b]? = some q→(b<H.length∧H[b]? = some q)∨(b=H.length∧q=k):=by
  intro b q hq
  rcases Nat.lt_or_ge b H.length with hb | hb
  ·rw [List.getElem?_append_left hb] at hq; exact .inl ⟨hb,hq⟩
  have hb2:b<(H++[k]).length:=(List.getElem?_eq_some_iff.1 hq).1
  have:b=H.length:=by simp at hb2; omega
  subst this
  simp at hq
  exact .inr ⟨rfl,hq.symm⟩
 have hatl:∀ b,b<H.length→Ren.own (ρ ++ [(some w.heap.size,cap)]) b = ρ.own b:=fun b hb=>own_append (by omega)
 have hatn:Ren.own (ρ ++ [(some w.heap.size,cap)]) H.length=owns (some w.heap.size,cap):=by
  rw [← hlen]
  exact own_last
 refine Core.next hC (by simp [hlen]) ⟨hw1,hw2,hw3,by rw [hw4]; simp,fun i hi _=>hold i hi⟩ (fun b q e hq he => ?_) (fun b1 b2 q1 q2 g h1 h2 l1 l2 a1 a2 => ?_) (fun g hg => ?_)
 ·rcases hlast b q hq with ⟨hb,hq'⟩ | ⟨rfl,rfl⟩
  ·rw [List.getElem?_append_left (by omega)] at he
   have hok:=hC.rh.ok b q e hq' he
   exact (hok.keep fun g hg hl=>hold g (hok.block hl hg)).more _
  rw [← hlen] at he
  simp at he
  subst he
  exact hk
 ·rcases hlast b1 q1 h1 with ⟨hb1,hq1⟩ | ⟨rfl,rfl⟩ <;> rcases hlast b2 q2 h2 with ⟨hb2,hq2⟩ | ⟨rfl,rfl⟩
  ·rw [hatl b1 hb1] at a1
   rw [hatl b2 hb2] at a2
   exact hC.rh.inj b1 b2 q1 q2 g hq1 hq2 l1 l2 a1 a2
  ·rw [hatl b1 hb1] at a1
   rw [hatn] at a2
   have a2:=owns_some a2
   subst a2
   have:=(hC.rh.lo _ (image_get hq1 l1 a1)).2
   omega
  ·rw [hatl b2 hb2] at a2
   rw [hatn] at a1
   have a1:=owns_some a1
   subst a1
   have:=(hC.rh.lo _ (image_get hq2 l2 a2)).2
   omega
  rfl
 rcases image_app hlen hg with h | h
 ·exact ⟨.inl h,by have:=(hC.rh.lo g h).2; rw [hw4]; simp; omega⟩
 have h:=owns_some h.1
 subst h
 exact ⟨.inr (Nat.le_refl _),by rw [hw4]; simp⟩
theorem Core.kill (hC:Core w0 cx ρ H w) (b:Nat):Core w0 cx ρ (H.set b .dead) w:=by
 have hget:∀ (b':Nat) (q:Blk),(H.set b .dead)[b']? = some q→q.live=true→H[b']? = some q:=by
  intro b' q hq hl
  by_cases hbb:b=b'
  ·subst hbb
   by_cases hb:b<H.length
   ·rw [List.getElem?_set_self hb] at hq
    cases hq
    cases hl
   rw [List.getElem?_eq_none (by simpa using Nat.not_lt.1 hb)] at hq
   cases hq
  rwa [List.getElem?_set_ne hbb] at hq
 have himg:∀ g,image ρ (H.set b .dead) g→image ρ H g:=fun g ⟨b',q,hq,hl,hg⟩=>⟨b',q,hget b' q hq hl,hl,hg⟩
 refine ⟨⟨by simpa using hC.rh.len,fun b' q e hq he => ?_,fun b1 b2 q1 q2 g h1 h2 l1 l2=>hC.rh.inj b1 b2 q1 q2 g (hget _ _ h1 l1) (hget _ _ h2 l2) l1 l2,fun g hg=>hC.rh.lo g (himg g hg),hC.rh.base⟩,hC.fr,fun g hg=>hC.own g (himg g hg),hC.pre⟩
 cases hl:q.live with
 | true=>exact hC.rh.ok b' q e (hget b' q hq hl) he
 | false=>cases q <;> first | trivial | cases hl
theorem Core.move (hC:Core w0 cx ρ H w) {b:Nat} {k k':Blk} (hb:H[b]? = some k) (hl:k.live=true) {e e':Option Nat × Nat} (hρ:ρ[b]? = some e) {w':World}
 (h1:w'.os=w.os) (h2:w'.tape=w.tape) (h3:w'.output=w.output) (h4:w.heap.size≤w'.heap.size) (h5:∀ i,i<w.heap.size→some i≠e.1→w'.heap[i]? = w.heap[i]?)
 (hk:k'.ok (ρ ++ [e']) e' w') (he':∀ g,e'.1=some g→(e.1=some g∨w.heap.size≤g)∧g<w'.heap.size) (hone:k'.one=true:=by rfl):Core w0 cx (ρ ++ [e']) (H.set b .dead++[k']) w':=by
 have h1k:k'.live=true → ∀ g,owns e' g→e'.1=some g:=fun hl g hg=>hk.own1 hl hone hg
 have hK:=hC.kill b
 have hlen:=hC.rh.len
 have hblt:b<H.length:=(List.getElem?_eq_some_iff.1 hb).1
 have hdead:∀ (b':Nat) (q:Blk),(H.set b .dead)[b']? = some q→q.live=true→b'≠b∧H[b']? = some q:=by
  intro b' q hq hl'
  by_cases hbb:b=b'
  ·subst hbb
   rw [List.getElem?_set_self hblt] at hq
   cases hq
   cases hl'
  rw [List.getElem?_set_ne hbb] at hq
  exact ⟨fun h=>hbb h.symm,hq⟩
 have hlast:∀ (b':Nat) (q:Blk),(H.set b .dead++[k'])[b']? = some q→(b'<H.length∧(H.set b .dead)[b']? = some q)∨(b'=H.length∧q=k'):=by
  intro b' q hq
  rcases Nat.lt_or_ge b' H.length with hb' | hb'
  ·rw [List.getElem?_append_left (by simpa using hb')] at hq; exact .inl ⟨hb',hq⟩
  have hb2:b'<(H.set b .dead++[k']).length:=(List.getElem?_eq_some_iff.1 hq).1
  have:b'=H.length:=by simp at hb2; omega
  subst this
  have hq2:(H.set b .dead++[k'])[(H.set b .dead).length]? = some q:=by simpa using hq
  simp at hq2
  exact .inr ⟨rfl,hq2.symm⟩
 have hatl:∀ b',b'<H.length→Ren.own (ρ ++ [e']) b' = ρ.own b':=fun b' hb'=>own_append (by omega)
 have hatn:Ren.own (ρ ++ [e']) H.length=owns e':=by
  rw [← hlen]
  exact own_last
 -- a live block other than 'b' lies elsewhere
 have hother:∀ (b':Nat) (q:Blk) (g:Nat),b'≠b→H[b']? = some q→q.live=true → ρ.own b' g→some g≠e.1:=by
  intro b' q g hne hq hl' hg heq
  exact hne (hC.rh.inj b' b q k g hq hb hl' hl hg (own_of hρ (.inl heq.symm)))
 refine Core.next hC (by simp [hlen]) ⟨h1,h2,h3,h4,fun i hi hni=>h5 i hi fun he=>hni (image_get hb hl (own_of hρ (.inl he.symm)))⟩ (fun b' q e1 hq he1 => ?_) (fun b1 b2 q1 q2 g x1 x2 l1 l2 a1 a2 => ?_) (fun g hg => ?_)
 ·rcases hlast b' q hq with ⟨hb',hq'⟩ | ⟨rfl,rfl⟩
  ·rw [List.getElem?_append_left (by omega)] at he1
   cases hl':q.live with
   | false=>cases q <;> first | trivial | cases hl'
   | true =>
    obtain ⟨hne,hq2⟩:=hdead b' q hq' hl'
    have hok:=hC.rh.ok b' q e1 hq2 he1
    exact (hok.keep fun g hg _=>h5 g (hok.block hl' hg) (hother b' q g hne hq2 hl' (own_of he1 hg))).more _
  rw [← hlen] at he1
  simp at he1
  subst he1
  exact hk
 ·rcases hlast b1 q1 x1 with ⟨hb1,hq1⟩ | ⟨rfl,rfl⟩ <;> rcases hlast b2 q2 x2 with ⟨hb2,hq2⟩ | ⟨rfl,rfl⟩
  ·rw [hatl b1 hb1] at a1
   rw [hatl b2 hb2] at a2
   exact hC.rh.inj b1 b2 q1 q2 g (hdead _ _ hq1 l1).2 (hdead _ _ hq2 l2).2 l1 l2 a1 a2
  ·rw [hatl b1 hb1] at a1
   rw [hatn] at a2
   obtain ⟨hne,hq⟩:=hdead _ _ hq1 l1
   rcases (he' g (h1k l2 g a2)).1 with h | h
   ·exact absurd h.symm (hother b1 q1 g hne hq l1 a1)
   have:=(hC.rh.lo g (image_get hq l1 a1)).2; omega
  ·rw [hatl b2 hb2] at a2
   rw [hatn] at a1
   obtain ⟨hne,hq⟩:=hdead _ _ hq2 l2
   rcases (he' g (h1k l1 g a1)).1 with h | h
   ·exact absurd h.symm (hother b2 q2 g hne hq l2 a2)
   have:=(hC.rh.lo g (image_get hq l2 a2)).2; omega
  rfl
 rcases image_app (by simpa using hlen) hg with h | h
 ·have hi:image ρ H g:=by
   obtain ⟨b',q,hq,hl',hg'⟩:=h
   exact ⟨b',q,(hdead b' q hq hl').2,hl',hg'⟩
  exact ⟨.inl hi,by have:=(hC.rh.lo g hi).2; omega⟩
 obtain ⟨x1,x2⟩:=he' g (h1k h.2 g h.1)
 refine ⟨?_,x2⟩
 rcases x1 with x1 | x1
 ·exact .inl (image_get hb hl (own_of hρ (.inl x1)))
 exact .inr x1
theorem Core.same (hC:Core w0 cx ρ H w) {w':World} (h1:w'.os=w.os) (h2:w'.tape=w.tape) (h3:w'.output=w.output) (h4:w'.heap=w.heap):Core w0 cx ρ H w':=by
 have:=Core.next hC (t:=[]) (H':=H) (w':=w') (by simpa using hC.rh.len) ⟨h1,h2,h3,by rw [h4]; exact Nat.le_refl _,fun i _ _=>by rw [h4]⟩
  (fun b q e hq he=>by rw [List.append_nil] at he ⊢; exact (hC.rh.ok b q e hq he).keep fun g _ _=>by rw [h4])
  (fun b1 b2 q1 q2 g x1 x2 l1 l2 a1 a2=>by rw [List.append_nil] at a1 a2; exact hC.rh.inj b1 b2 q1 q2 g x1 x2 l1 l2 a1 a2)
  (fun g hg=>by rw [List.append_nil] at hg; exact ⟨.inl hg,by rw [h4]; exact (hC.rh.lo g hg).2⟩)
 rwa [List.append_nil] at this
end
end Go.Vc
end
section
namespace Go.Vc
open Go.RowKit (Below)
section
variable {P:Program} {w0:World} {cx:Cx} {ρ:Ren} {s:S} {K:AV→S→Prop} {a:Act} {o:Oper} {w:World}
theorem flat_set {α:Type} {e:Enc α} {bs:List Nat} {wd:Nat} (h:∀ x,(e.f bs x).length=wd) {vs:List CV} {j:Nat} {x x':α} (hj:j+vs.length≤wd) (hx':e.f bs x'=(e.f bs x).take j++(vs++(e.f bs x).drop (j+vs.length))) :
 ∀ {xs:List α} {i:Nat},xs[i]? = some x→flat e bs (xs.set i x')=(flat e bs xs).take (i*wd+j)++(vs++(flat e bs xs).drop (i*wd+j+vs.length))
 | [],i,hi=>by simp at hi
 | y::r,0,hi=>by
  simp at hi
  subst hi
  have hl:=h y
  simp only [flat,List.set_cons_zero,List.flatMap_cons,Nat.zero_mul,Nat.zero_add]
  rw [hx',List.take_append_of_le_length (by omega),List.drop_append_of_le_length (by omega)]
  simp [List.append_assoc]
 | y::r,i+1,hi=>by
  have ih:=flat_set h hj hx' (xs:=r) (i:=i) (by simpa using hi)
  have hl:=h y
  simp only [flat,List.set_cons_succ,List.flatMap_cons] at ih ⊢
  rw [ih]
  have e1:(i+1)*wd+j=(e.f bs y).length+(i*wd+j):=by rw [hl,Nat.add_mul]; omega
  have e2:(i+1)*wd+j+vs.length=(e.f bs y).length+(i*wd+j+vs.length):=by rw [hl,Nat.add_mul]; omega
  rw [e1,List.take_length_add_append]
  have e3:(e.f bs y).length+(i*wd+j)+vs.length=(e.f bs y).length+(i*wd+j+vs.length):=by omega
  rw [e3,List.drop_length_add_append]
  simp [List.append_assoc]
theorem setRow_facts (g:Nat) (c:Array Value):(w.setRow g c).os=w.os∧(w.setRow g c).tape=w.tape∧(w.setRow g c).output=w.output∧(w.setRow g c).heap.size=w.heap.size ∧ ∀ i,i≠g→(w.setRow g c).heap[i]? = w.heap[i]? :=
 ⟨rfl,rfl,rfl,by simp,fun i hi=>setRow_other w g i c hi⟩
theorem All2.one' {l:List CV} {vs:List Value} (h:All2 (CV.R ρ) l vs):∀ v∈vs,v.oneCell'=true:=by
 induction h with
 | nil=>simp
 | cons ha _ ih =>
  intro v hv
  rcases List.mem_cons.1 hv with rfl | hv
  ·exact CV.R.one ha
  exact ih v hv
theorem e_st (hE:EnvR ρ s.env a.tmps) (hC:Core w0 cx ρ s.H w) {t:TypeId} {x v:Operand} {x' v':X} {n:Nat} (hop:o.op = .store t x v) (hs:sizeT P t=some n) (hx:compX x=some x') (hv:compX v=some v')
 (h:evI P w0 (.st x' v' n) s K):EOk P w0 cx o a ρ s K w:=by
 simp only [evI] at h
 obtain ⟨c,hA1,hR⟩:=getC_R hE hx h
 clear h
 obtain ⟨y,hA2,hy⟩:=get1_R hE hv hA1
 clear hA1
 obtain ⟨hn0,h⟩:=chk_spec hA2
 clear hA2
 have hn:y.cells.length=n:=by simpa using hn0
 have hvs:=hy.cells
 have hsz:=hy.size
 -- a run of cells in a block of cells
 have hrun:∀ (g off:Nat) (T:TypeId) (arr:Array Value),a.eval x = .pointer (some ⟨g,off,none⟩)→w.heap[g]? = some (.cells arr T (0,0))→off+y.cells.length≤arr.size →
  (execOp a.eval o).run P w = .ok .skip (w.setRow g (arr.toList.take off++(a.eval v).cells.toList++arr.toList.drop (off+y.cells.length)).toArray):=by
  intro g off T arr he hg hle
  have hl:(a.eval v).cells.toList.length=y.cells.length:=hvs.length.symm
  have hst:=run_storeCells_at P g off T (a.eval v).cells.toList 0 arr w hg (by rw [hl]; simpa using hle) hvs.one'
  simp only [Nat.add_zero,hl] at hst
  simp [execOp,hop,he,Instr.storeAt,Instr.sureAddr,storeVar,run_sizeT hs,hsz,hn,hst]
 have hcells:∀ (b g off:Nat) (T:TypeId) (cs:List CV),a.eval x = .pointer (some ⟨g,off,none⟩) → ρ.at b=some g→s.H[b]? = some (.cells T cs) →
  putF off y.cells cs (fun l=>setF b (.cells T l) s.H fun H=>K (.t []) { s with H:=H })→EOk P w0 cx o a ρ s K w:=by
  intro b g off T cs he hg hb hp
  obtain ⟨e,hρ,g',arr,h1,h2,h3⟩:=hC.rh.get hb
  obtain ⟨e1,cap⟩:=e
  simp only at h1
  subst h1
  rw [at_of_get hρ] at hg
  cases hg
  obtain ⟨hle,hp⟩:=putF_spec hp
  obtain ⟨_,hK⟩:=setF_spec hp
  have hle':off+y.cells.length≤arr.size:=by have:=h3.length; simp at this; omega
  obtain ⟨f1,f2,f3,f4,f5⟩:=setRow_facts (w:=w) g (arr.toList.take off++(a.eval v).cells.toList++arr.toList.drop (off+y.cells.length)).toArray
  have hnew:All2 (CV.R ρ) (cs.take off++(y.cells++cs.drop (off+y.cells.length))) (arr.toList.take off++(a.eval v).cells.toList++arr.toList.drop (off+y.cells.length)):=by
   rw [List.append_assoc]
   exact (h3.take_ off).append (hvs.append (h3.drop_ _))
  refine eok_of_skip ⟨_,[],_,hK,rfl,?_,hrun g off T arr he h2 hle'⟩
  rw [List.append_nil]
  exact hC.set hb rfl hρ f1 f2 f3 f4 f5 ⟨g,_,rfl,setRow_heap w g arr _ T _ h2,by simpa using hnew⟩
 unfold stn at h
 split at h
 ·rename_i b off
  split at h
  ·rename_i T cs hb
   obtain ⟨g,hg,he⟩:=hR
   exact hcells b g off T cs he hg hb h
  exact h.elim
 ·rename_i b wd i j
  split at h
  ·rename_i T cs hb
   obtain ⟨g,hg,he⟩:=hR
   exact hcells b g _ T cs he hg hb h
  ·rename_i α wr T e bs wd' xs hb
   obtain ⟨hck,z,z',hz,hput0,hset⟩:=chk_spec h
   clear h
   simp only [Bool.and_eq_true] at hck
   obtain ⟨rfl,hw⟩:=hck
   have hw2:wd=wd':=by simpa using hw
   subst hw2
   obtain ⟨g,hg,he⟩:=hR
   obtain ⟨e',hρ,h0,hlen,h2⟩:=hC.rh.get hb
   obtain ⟨e1,cap⟩:=e'
   rcases h2 with ⟨h2,_⟩ | ⟨g',arr,fz,h2,h3,h4,h5,hc,⟨sp,h6,h7⟩,h8⟩
   ·rw [at_of_get hρ,h2] at hg; cases hg
   simp only at h2
   subst h2
   rw [at_of_get hρ] at hg
   cases hg
   have hfz:=h8 rfl
   subst hfz
   obtain ⟨hle,hput⟩:=putF_spec hput0
   obtain ⟨_,hK⟩:=setF_spec hset
   have hlt:i<xs.length:=(List.getElem?_eq_some_iff.1 hz).1
   have hj:j+y.cells.length≤wd:=by have:=hlen z; omega
   have hfl:=flat_length hlen xs
   have hmul:(i+1)*wd≤xs.length*wd:=Nat.mul_le_mul_right _ hlt
   have hle2:i*wd+j+y.cells.length≤(flat e bs xs).length:=by rw [hfl]; rw [Nat.add_mul] at hmul; omega
   have hle':i*wd+j+y.cells.length≤arr.size:=by
    have:=h6.length
    simp only [List.length_append,Array.length_toList] at this
    omega
   obtain ⟨f1,f2,f3,f4,f5⟩:=setRow_facts (w:=w) g (arr.toList.take (i*wd+j)++(a.eval v).cells.toList++arr.toList.drop (i*wd+j+y.cells.length)).toArray
   refine eok_of_skip ⟨_,[],_,hK,rfl,?_,hrun g _ T arr he h3 hle'⟩
   rw [List.append_nil]
   refine hC.set hb rfl hρ f1 f2 f3 f4 f5 ⟨h0,hlen,.inr ⟨g,_,(0,0),rfl,setRow_heap w g arr _ T _ h3,?_,by simpa using h5,hc,⟨sp,?_,h7⟩,fun _=>rfl⟩⟩
   ·have hl:(a.eval v).cells.toList.length=y.cells.length:=hvs.length.symm
    simp only [List.size_toArray,List.length_append,List.length_take,List.length_drop,Array.length_toList,hl]
    simp only at h4
    omega
   rw [flat_set hlen hj hput hz]
   have e1:(flat e bs xs++sp).take (i*wd+j)=(flat e bs xs).take (i*wd+j):=List.take_append_of_le_length (by omega)
   have e2:(flat e bs xs++sp).drop (i*wd+j+y.cells.length)=(flat e bs xs).drop (i*wd+j+y.cells.length)++sp:=List.drop_append_of_le_length hle2
   have hnew:=(h6.take_ (i*wd+j)).append (hvs.append (h6.drop_ (i*wd+j+y.cells.length)))
   rw [e1,e2] at hnew
   simpa [List.append_assoc] using hnew
  exact h.elim
 exact h.elim
theorem run_new (T:TypeId) (cells:Array Value) (w:World):(newRow T cells).run P w = .ok ⟨w.heap.size,0,none⟩ (w.alloc (.cells cells T)):=by
 simp [newRow]
theorem alloc_facts (x:Obj):(w.alloc x).os=w.os∧(w.alloc x).tape=w.tape∧(w.alloc x).output=w.output∧(w.alloc x).heap=w.heap.push x:=⟨rfl,rfl,rfl,rfl⟩
theorem Core.cells_new (hC:Core w0 cx ρ s.H w) {T:TypeId} {cs:List CV} {arr:Array Value} (hA:All2 (CV.R ρ) cs arr.toList) :
 Core w0 cx (ρ ++ [(some w.heap.size,0)]) (s.H++[.cells T cs]) (w.alloc (.cells arr T)):=by
 obtain ⟨f1,f2,f3,f4⟩:=alloc_facts (w:=w) (.cells arr T)
 exact hC.push f1 f2 f3 f4 ⟨w.heap.size,arr,rfl,by rw [f4]; simp,hA.mono fun _ _=>CV.R.more _⟩
theorem R_new (hC:Core w0 cx ρ s.H w) {cap:Nat}:(CV.ptr (0+s.H.length) 0).R (ρ ++ [(some w.heap.size,cap)]) (.pointer (some ⟨w.heap.size,0,none⟩)):=by
 refine ⟨w.heap.size,?_,rfl⟩
 unfold Ren.at
 rw [Nat.zero_add,← hC.rh.len]
 simp
theorem e_alc (hC:Core w0 cx ρ s.H w) {t:TypeId} {z:List Value} (hop:o.op = .alloc t) (hz:zeroT P t=some z) (h:evI P w0 (.alc t z) s K):EOk P w0 cx o a ρ s K w:=by
 simp only [evI] at h
 have h:=pushF_spec (mapF_spec h)
 obtain ⟨h1,v,hv,hzr⟩:=zeroT_spec hz
 refine eok_of_run ⟨_,_,_,_,_,h,rfl,R_new hC (cap:=0),hC.cells_new (arr:=v.cells) (by rw [hv]; exact zero_R h1),?_⟩
 simp [execOp,hop,Instr.alloc,hzr,newVar,run_new]
theorem e_box (hE:EnvR ρ s.env a.tmps) (hC:Core w0 cx ρ s.H w) {t:TypeId} {x:Operand} {x':X} (hop:o.op = .box t x) (hx:compX x=some x') (h:evI P w0 (.box t x') s K):EOk P w0 cx o a ρ s K w:=by
 simp only [evI] at h
 obtain ⟨y,h,hy⟩:=get1_R hE hx h
 have h:=pushF_spec h
 refine eok_of_run ⟨_,_,_,_,_,h,rfl,R_new hC (cap:=0),hC.cells_new hy.cells,?_⟩
 simp [execOp,hop,Instr.box,newVar,run_new]
theorem range_zero {zero:Array Value} {n len:Nat} (hz:zero.size=n) (hn:n≠0):((Array.range (len*n)).map (zero[· % zero.size]!)).toList=(List.replicate len zero.toList).flatten:=by
 have hl:((List.replicate len zero.toList).flatten).length=len*n:=by simp [hz]
 apply List.ext_getElem?
 intro i
 rcases Nat.lt_or_ge i (len*n) with hi | hi
 ·have hmod:i % n<n:=Nat.mod_lt _ (by omega)
  have hdiv:i / n<len:=by rw [Nat.div_lt_iff_lt_mul (by omega)]; exact hi
  have hrep:∀ (len i:Nat),i<len*n→((List.replicate len zero.toList).flatten)[i]? = zero.toList[i % n]? := by
   intro len
   induction len with
   | zero=>intro i h; simp at h
   | succ len ih =>
    intro i h
    rw [List.replicate_succ,List.flatten_cons]
    rcases Nat.lt_or_ge i n with hin | hin
    ·rw [List.getElem?_append_left (by simpa [hz] using hin),Nat.mod_eq_of_lt hin]
    rw [List.getElem?_append_right (by simpa [hz] using hin)]
    have hlz:zero.toList.length=n:=by simp [hz]
    rw [hlz,ih (i - n) (by rw [Nat.add_mul] at h; omega),Nat.mod_eq_sub_mod hin]
  rw [hrep len i hi]
  simp [hi,hz,hmod]
 rw [List.getElem?_eq_none (by simpa using hi),List.getElem?_eq_none (by rw [hl]; exact hi)]
theorem e_bsl (hE:EnvR ρ s.env a.tmps) (hC:Core w0 cx ρ s.H w) {t e:TypeId} {n len:Nat} {ps:Array (Nat × Operand)} {z:List Value} {parts:List (Nat × Nat × X)} (hop:o.op = .buildSlice t len ps) (hu:P.underlying t=some (.slice e))
 (hs:sizeT P e=some n) (hz:zeroT P e=some z) (hn:n≠0) (hzl:z.length=n) (hlen:len≠0) (hp:compParts (fun i=>some (i*n,n)) ps.toList=some parts) (hnmax:len*n≤16777216)
 (h:evI P w0 (.bsl e n len ((List.replicate len z).flatten) parts) s K):EOk P w0 cx o a ρ s K w:=by
 simp only [evI] at h
 have h:=mapF_spec h
 obtain ⟨h1,v,hv,hzr⟩:=zeroT_spec hz
 have hvs:v.cells.size=n:=by rw [← hzl,← hv]; simp
 have hrz:=range_zero (len:=len) hvs hn
 rw [hv] at hrz
 obtain ⟨z',cells',hk,hA,hf⟩:=fill_sound hE hp h (cells:=(Array.range (len*n)).map (v.cells[· % v.cells.size]!)) (by
  rw [hrz]
  refine zero_R fun u hu => ?_
  obtain ⟨l,hl,hul⟩:=List.mem_flatten.1 hu
  rw [List.eq_of_mem_replicate hl] at hul
  exact h1 u hul)
 have h:=pushF_spec hk
 refine eok_of_run ⟨_,_,_,.slice (some ⟨w.heap.size,0,none⟩) len len,_,h,rfl,?_,hC.cells_new hA,?_⟩
 ·refine ⟨w.heap.size,?_,by simp,Nat.le_refl _⟩
  unfold Ren.at
  rw [Nat.zero_add,← hC.rh.len]
  simp
 have hne:len*n≠0:=Nat.mul_ne_zero hlen hn
 have hgt:¬ (len*n>2 ^ 24):=by simp; omega
 simp only [execOp,hop,Instr.buildSlice,Sem.run_bind,run_underlying hu,Result.andThen_ok,run_sizeT hs,if_neg hgt,if_neg hne,Sem.run_pure,hzr,Array.toList_map,hf,run_new]
theorem e_bs0 (hC:Core w0 cx ρ s.H w) {t e:TypeId} {n:Nat} {ps:Array (Nat × Operand)} (hop:o.op = .buildSlice t 0 ps) (hps:ps.toList=[]) (hu:P.underlying t=some (.slice e))
 (hs:sizeT P e=some n) (h:evI P w0 (.bs0 e n) s K):EOk P w0 cx o a ρ s K w:=by
 obtain ⟨h0,α,en,bs,hlen,h⟩:=h
 have h:=pushF_spec h
 have eps:ps = #[]:=Array.toList_inj.1 (by simp [hps])
 subst eps
 have hnew:(w.alloc (.cells #[] e (0,0))).heap[w.heap.size]? = some (.cells #[] e (0,0)):=by
  rw [(alloc_facts _).2.2.2,Array.getElem?_push,if_pos rfl]
 have hC':Core w0 cx (ρ ++ [(some w.heap.size,0)]) (s.H++[.vec true e en bs n []]) (w.alloc (.cells #[] e (0,0))) :=
  hC.push rfl rfl rfl rfl ⟨h0,hlen,.inr ⟨w.heap.size,#[],(0,0),rfl,hnew,by simp,Nat.le_refl _,by simp,⟨[],.nil,by simp⟩,fun _=>rfl⟩⟩
 have hget:(ρ ++ [(some w.heap.size,0)])[0+s.H.length]? = some (some w.heap.size,0):=by
  rw [Nat.zero_add,← hC.rh.len]
  simp
 refine eok_of_run ⟨_,_,_,.slice (some ⟨w.heap.size,0,none⟩) 0 0,w.alloc (.cells #[] e (0,0)),h,rfl,⟨_,hget,.inl ⟨_,rfl,rfl,Nat.le_refl _⟩⟩,hC',?_⟩
 simp [execOp,hop,Instr.buildSlice,run_underlying hu,run_sizeT hs,Instr.fill,run_new]
 have h0:∀ (f:Nat→Value),Array.map f (Array.range 0) = #[]:=fun f=>Array.toList_inj.1 (by simp)
 rw [h0]
end
end Go.Vc
end
end
