/- The package's resampler answers what the standard's own does. -/
import Derived.Test.YtbpogapddpacoaaGreatDoorRows
import Derived.Test.YtbpogapddpacoaaGreatDoorCards
import Derived.Test.YtbpogapddpacoaaGreatDoorTie
import Derived.WalkKit
import Derived.ProofKit
import Derived.OpenShut
import Derived.ChangeOld
import Derived.Below
import Derived.SizedLaws
import Derived.SevenTiedAt
import Derived.Test.YtbpogapddpacoaaGreatDoorKrG
namespace Go.Proofs.YtbpogapddpacoaaGreatDoor.fnResample
open Go Go.Vc
open Go.ChangeShapes Go.WideShapes Go.ChangeAt Go.RowKit
set_option linter.unusedVariables false

theorem one_smps {W:World} {v:Value} {ys:List (Value × List Int)} (hv:smpsAt W v ys):v.oneCell'=true:=by
  rcases hv with ⟨rfl,_⟩ | ⟨a,c,rfl,_⟩ <;> rfl
theorem walk (W:World) (hpw:pows W) (hT:dlyTab W) (hC:coTab W) (hU:upTab W) (hT12:tab12 W) {v:Value} {ys:List (Value × List Int)} (hv:smpsAt W v ys) (f t:Nat) (hf:f<256) (ht:t<256) :
    Calls Tryz.prog 3 #[v,.int .u8 f,.int .u8 t] W fun e W'=>e = .returned (.bool true)∧Below W.heap.size W W':=by
  have h:=(lawW W hpw hT hC hU hT12 hv hf ht).out [] W [v,.int .u8 f,.int .u8 t] ⟨rfl,(fun b k e h=>by cases h),(fun b b' k k' g h=>by cases h),(fun g h=>by obtain ⟨b,k,h,_⟩:=h; cases h),Below.refl _ _⟩
    (.cons ⟨rfl,one_smps hv⟩ (.cons ⟨rfl,rfl⟩ (.cons ⟨rfl,rfl⟩ .nil)))
  refine h.mono ?_
  rintro e W' ⟨r,H',ρ',x,rfl,rfl,hx,hr,_,_,_⟩
  have:x = .bool true:=hx.1
  subst this
  exact ⟨rfl,hr.base⟩
theorem u8_of {a:Int} (w:(Lit.int .u8 a).wf=true):∃ n:Nat,a=n∧n<256:=by
  simp only [Lit.wf,Bool.and_eq_true,decide_eq_true_eq] at w
  have g1:0≤a:=w.1
  have g2:a≤255:=w.2
  exact ⟨a.toNat,by omega,by omega⟩
set_option maxRecDepth 100000 in
theorem lifted (os:Os) (started:os.Started) (H:Type) (enc:TypeId × Value→H) :
    ReturnsInHanded {} Tryz.checked os 3 .any (fun w args=>(Rows.fnResampleSpec.pre enc Tryz.prog Tryz.f3 [] false w args∧laidMetH Tryz.prog laidR w)∧sizedMet enc Tryz.prog Tryz.f3 (OpenSpec.ofChange Rows.fnResampleSpec) false w args)
      (Rows.fnResampleSpec.post enc Tryz.prog Tryz.f3 false true false false):=by
  refine returnsInHanded_of_change_and (C:=Tryz.checked) (X:=fun w _=>laidMetH Tryz.prog laidR w) (fun _ _ _ hh h=>h.of_heap hh) own started (by kernel_rfl) Tryz.func3
    (ChangeSpec.witness_shaped (enc:=enc) (C:=Tryz.checked) (os:=os) (X:=fun w _=>laidMetH Tryz.prog laidR w) false (World.doorLaid Tryz.prog 400 os) #[.slice none 0 0,.int .u8 0,.int .u8 0] 8 rfl (World.shaped_of_RefB (by kernel_rfl) (by kernel_rfl)) (by kernel_rfl) (by kernel_rfl) (by kernel_rfl) (doorR os _)) ?_
  intro W base args ds gs before hval0 hW _ _ hL _
  have hval:∀ (j:Nat) t v,Tryz.f3.params[j]? = some t→args[j]? = some v→Value.okWide Tryz.prog W .any base t v:=hval0
  have hW':=hW
  obtain ⟨p,q,hA0,hV,rfl,hfz,hnd⟩:=hW
  have hA:DataW.TrodAll enc Tryz.prog W 0 (fun _=>true) true Tryz.f3.params.toList args.toList ds p:=hA0
  rw [Tryz.params3] at hA hval
  obtain ⟨v0,vs0,d0,ds0,p0,q0,hargs,rfl,rfl,h0,r0⟩:=trodAll_cons hA
  obtain ⟨v1,vs1,d1,ds1,p1,q1,rfl,rfl,rfl,h1,r1⟩:=trodAll_cons r0
  obtain ⟨v2,vs2,d2,ds2,p2,q2,rfl,rfl,rfl,h2,r2⟩:=trodAll_cons r1
  obtain ⟨rfl,rfl,rfl⟩:=trodAll_nil r2
  obtain rfl:args = #[v0,v1,v2]:=by cases args; simp_all
  obtain ⟨rfl,rfl⟩:=trodVars_none hV
  obtain ⟨a0,len0,cap0,rfl⟩:=okWide_slice Tryz.underlying22 (hval 0 22 v0 rfl rfl)
  obtain ⟨a1,rfl,rfl,rfl,w1⟩:=open_int Tryz.underlying5 (hval 1 5 v1 rfl rfl) h1
  obtain ⟨a2,rfl,rfl,rfl,w2⟩:=open_int Tryz.underlying5 (hval 2 5 v2 rfl rfl) h2
  have k0:=h0
  have lt0:∀ x∈p0,x.block<W.heap.size:=by obtain ⟨m,hm⟩:=k0; exact DataW.trod_lt m _ _ _ hm
  obtain ⟨ys,w0⟩:∃ ys,smpsAt W (.slice a0 len0 cap0) ys:=by
    obtain ⟨fuel,hf⟩:=h0
    obtain ⟨v,ys,hcs,hl⟩:=opened_smps hf
    obtain rfl:Value.slice a0 len0 cap0=v:=by simpa [Value.cells] using hcs
    exact ⟨ys,hl⟩
  obtain ⟨f,rfl,hf⟩:=u8_of w1
  obtain ⟨t,rfl,ht⟩:=u8_of w2
  obtain ⟨hpw,hT,hU,hC,hT12⟩:=metR hL
  clear hA0 hval0
  refine (walk W hpw hT hC hU hT12 w0 f t hf ht).mono fun e W' ⟨he,bel⟩ => ?_
  subst he
  exact ⟨_,rfl,_,_,_,[],_,[],hW',trodAll_mk1 (shut_bool Tryz.underlying4 _),(trodAll_cons_mk (Below.trod laidOut (by kernel_rfl) (of_decide_eq_true (by kernel_rfl)) k0 bel lt0) (trodAll_cons_mk (shut_int Tryz.underlying5 w1) (trodAll_cons_mk (shut_int Tryz.underlying5 w2) trodAll_mk0))),rfl,bel.frame _,fun h=>by cases h⟩
theorem said:Rows.FnResampleSaid :=
  OpenClaim.holds_of_wide 3 Tryz.f3 rfl rfl rfl rfl rfl rfl rfl ⟨rfl,rfl,rfl,rfl,rfl⟩ rfl rfl rfl rfl rfl (by kernel_rfl) Tryz.func3 (by kernel_rfl)
    (of_decide_eq_true (by kernel_rfl)) (by unfold Func.isWrapper; first | (rw [if_pos (by decide +kernel)]; kernel_rfl) | (rw [if_neg (by decide +kernel)]; exact ⟨rfl,rfl⟩))
    (fun os started H enc _=>lifted os started H enc)
theorem proved:Rows.FnResampleCardSaid :=
  Claim7.holds_tied_plain_at .later [] [.data,.data,.data,.sentinel,.sentinel,.sentinel,.sentinel,.sentinel,.data,.data,.data,.data,.data,.data,.data,.data,.data,.data] true (true, "a25f6160a6f562e4d4fb7bfafe3fac65e2b0c9b835ca9b6355db9f66c012ba97") false
    said (fun _ h=>by cases h) (by kernel_rfl) (fun _ h=>by cases h) fnResample_row_tie rfl ⟨rfl,rfl⟩ (by kernel_rfl) rfl
    (fun f fn hf hfn=>by
      obtain rfl:f=3:=Option.some.inj ((show Tryz.prog.funcNamed "pub-carronade/laws.FnResample" = some 3 by kernel_rfl).symm.trans hf) |>.symm
      obtain rfl:fn=Tryz.f3:=(Option.some.inj (Tryz.func3.symm.trans hfn)).symm
      exact ⟨by kernel_rfl,fun j t ht=>by
        rw [Tryz.params3] at ht
        have hm:t∈[22,5,5]:=by simpa using Array.mem_of_getElem? ht
        have hall:([22,5,5].all fun u => !Tryz.prog.wantsStandIn u)=true:=by kernel_rfl
        exact (show Tryz.prog.wantsStandIn t=false by simpa using List.all_eq_true.1 hall t hm)⟩)
    (by kernel_rfl)
end Go.Proofs.YtbpogapddpacoaaGreatDoor.fnResample
namespace Go.Proofs.YtbpogapddpacoaaGreatDoor
/-- The statement,under a short name. -/
theorem resample_holds:Rows.FnResampleCardSaid:=fnResample.proved
#print axioms resample_holds
end Go.Proofs.YtbpogapddpacoaaGreatDoor
