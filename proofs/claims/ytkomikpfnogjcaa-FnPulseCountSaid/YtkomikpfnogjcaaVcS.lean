/- Functions that begin with a deferred call that takes a panic back, and do not panic. -/
import Derived.Test.YtkomikpfnogjcaaVcR
import Derived.Recover
namespace Go.Vc
open Go.RowKit (Below)
section
variable {P : Program} {w0 : World}

/-- A function that asks whether there is a panic, and does nothing where there is none. -/
def recov2 (P : Program) (fn : Func) (o1 o2 : Oper) (c : Nat) : Bool :=
  match o1.dst, o1.op, o1.guard, o2.dst, o2.op, o2.guard with
  | some t1, .call ⟨.builtin .recover, _, _⟩, none, some t2, .binOp .neq ty (.tmp t) (.const .nilIface) _, none =>
    Nat.beq t t1 && (Nat.beq c t2 && (Nat.blt t1 fn.ntmps && (Nat.blt t2 fn.ntmps && (match P.underlying ty with | some (.interface _) => true | _ => false))))
  | _, _, _, _, _, _ => false
def recovOk (P : Program) (g : FuncId) : Bool :=
  match P.funcs[g]? with
  | none => false
  | some fn => !(fn.name == "runtime.NumGoroutine") && (match fn.results.toList with | [] => true | _ => false) && (match fn.body with
    | some (.seq (.region _ ⟨[o1, o2]⟩ false) (.cond (.tmp c) _ .skip)) => recov2 P fn o1 o2 c
    | _ => false)

theorem equal_nil {ty : TypeId} {m : Array (String × TypeId)} (hm : P.underlying ty = some (.interface m)) (w : World) : (Op.equal ty .nilIface .nilIface).run P w = .ok true w := by
  have key : ∀ n, (Op.equalIn (n + 1) ty .nilIface .nilIface).run P w = .ok true w := by
    intro n
    unfold Op.equalIn
    rw [Sem.run_bind, run_underlying hm]
    rfl
  exact key 9999
theorem recov_calls {g : FuncId} (h : recovOk P g = true) (args : Array Value) (w : World) :
    CallsD P g args .returning w (fun e u' w' => (∃ v, e = .returned v) ∧ u' = .returning ∧ w' = w) ∧ ∃ fn, P.funcs[g]? = some fn ∧ (fn.name == "runtime.NumGoroutine") = false ∧ fn.body.isNone = false := by
  unfold recovOk at h
  cases hf : P.funcs[g]? with
  | none => simp [hf] at h
  | some fn =>
    simp only [hf, Bool.and_eq_true, Bool.not_eq_true'] at h
    obtain ⟨⟨hn, hres⟩, hbody⟩ := h
    split at hbody
    · rename_i b o1 o2 c y hb
      unfold recov2 at hbody
      split at hbody
      · rename_i t1 ca ct t2 ty t z hd1 ho1 hg1 hd2 ho2 hg2
        simp only [Bool.and_eq_true] at hbody
        obtain ⟨e1, e2, l1, l2, hty⟩ := hbody
        have e1 := Nat.eq_of_beq_eq_true e1
        have e2 := Nat.eq_of_beq_eq_true e2
        subst e1 e2
        have l1 : t < fn.ntmps := Nat.le_of_ble_eq_true l1
        have l2 : c < fn.ntmps := Nat.le_of_ble_eq_true l2
        refine ⟨callsD_of_wpS hf hb fun c₀ cs hu => ?_, fn, rfl, hn, by rw [hb]; rfl⟩
        have hsz : ∀ k, k < fn.ntmps → k < (args ++ Array.replicate (fn.ntmps - args.size) undef).size := fun k hk => by
          simp
          omega
        generalize args ++ Array.replicate (fn.ntmps - args.size) undef = tmps at *
        refine wpS_seq (wpS_region ?_)
        have hr : recoverD (c₀ :: cs) = none := by simp [recoverD, hu]
        have hty' : ∃ m, P.underlying ty = some (.interface m) := by
          split at hty
          · rename_i m hm
            exact ⟨m, hm⟩
          · cases hty
        obtain ⟨m, hm⟩ := hty'
        have hrun1 : ∀ a : Act, (execOp a.eval o1).run P w = .ok .recover w := fun a => by
          simp [execOp, ho1, resolve, invoke, builtin]
        have hrun2 : ∀ a : Act, a.tmps[t]? = some .nilIface → (execOp a.eval o2).run P w = .ok (.value (.bool false)) w := fun a ha => by
          have hev : a.eval (.tmp t) = .nilIface := by simp [Act.eval, ha]
          have hev2 : a.eval (.const .nilIface) = .nilIface := rfl
          simp [execOp, ho2, hev, hev2, eqGuard, binOp, equal_nil hm]
        have hl : (List.range (#[o1, o2] : Array Oper).size) = [0, 1] := rfl
        show wpOpsS P #[o1, o2] _ (List.range (#[o1, o2] : Array Oper).size) _ _ _
        rw [hl]
        have h1 : t < (tmps.setIfInBounds t Value.nilIface).size := by simpa using hsz t l1
        have h2 : c < (tmps.setIfInBounds t Value.nilIface).size := by simpa using hsz c l2
        have w1 : ∀ y, Region.wanted o1 y = true := fun y => by simp [Region.wanted, hg1]
        have w2 : ∀ y, Region.wanted o2 y = true := fun y => by simp [Region.wanted, hg2]
        have ha1 : (tmps.setIfInBounds t Value.nilIface)[t]? = some .nilIface := by
          rw [Array.getElem?_setIfInBounds_self_of_lt (hsz t l1)]
        unfold wpOpsS
        rw [show (#[o1, o2] : Array Oper)[0]? = some o1 from rfl]
        simp only [w1, if_true, hrun1, hr, Act.put, hd1]
        unfold wpOpsS
        rw [show (#[o1, o2] : Array Oper)[1]? = some o2 from rfl]
        simp only [w2, if_true, hrun2 { tmps := tmps.setIfInBounds t Value.nilIface, defers := [] } ha1, Oper.upon_value, Act.put, hd2]
        unfold wpOpsS
        refine wpS_cond (t := false) ?_ ?_
        · simp only [Act.eval]
          rw [Array.getD_eq_getD_getElem?, Array.getElem?_setIfInBounds_self_of_lt h2]
          rfl
        · simp only [Bool.false_eq_true, if_false]
          refine wpS_of_wp (wp_skip ?_)
          have hres0 : fn.results = #[] := by
            split at hres
            · rename_i hnil
              exact Array.toList_inj.1 (by rw [hnil])
            · cases hres
          exact ⟨rfl, .returning, by rw [← hu], _, results_none hres0 _ P w, ⟨_, rfl⟩, rfl, rfl⟩
      · cases hbody
    · cases hbody

def dfr2 (o1 o2 : Oper) : Option (Nat × FuncId × Array Operand) :=
  match o1.dst, o1.op, o1.guard, o2.dst, o2.op, o2.guard with
  | some t, .makeFunc (.func g) ⟨[]⟩ caps, none, none, .defer ⟨.value (.tmp t'), ⟨[]⟩, _⟩, none => bif Nat.beq t t' then some (t, g, caps) else none
  | _, _, _, _, _, _ => none
def compD (P : Program) (f : FuncId) : Option IFn :=
  match P.funcs[f]? with
  | none => none
  | some fn => match fn.body with
    | some (.seq (.region _ ops0 false) (.seq (.region _ ⟨[o1, o2]⟩ false) rest)) =>
      (match dfr2 o1 o2, compGs P fn.ntmps ops0 ops0.toList, compG P fn.ntmps #[o1, o2] o1, compC P fn.ntmps rest, compRes P fn.results.toList with
      | some (_, g, _), some gs, some g1, some ir, some rs =>
        if recovOk P g && !(fn.name == "runtime.NumGoroutine") && Nat.ble (fn.params.size + fn.nfree) fn.ntmps then some ⟨.seq (.reg gs) (.seq (.reg [g1]) ir), fn.params.size + fn.nfree, rs⟩ else none
      | _, _, _, _, _ => none)
    | _ => none

theorem Rel.ds {cx : Cx} {N : Nat} {ρ : Ren} {s : S} {a : Act} {w : World} (h : Rel w0 cx N ρ s a w) (l : List Deferred) : Rel w0 ⟨cx.w1, cx.F, cx.ρe, l⟩ N ρ s { a with defers := l } w :=
  ⟨h.sz, rfl, h.env, ⟨h.core.rh, h.core.fr, h.core.own, h.core.pre⟩⟩

theorem callsA_of_evD {f : FuncId} {F : IFn} {args : List A1} {H : List Blk} {R : AV → List Blk → Prop} (hc : compD P f = some F) (h : evF P w0 F args H R) : CallsA P w0 f args H R := by
  unfold compD at hc
  cases hf : P.funcs[f]? with
  | none => simp [hf] at hc
  | some fn =>
    simp only [hf] at hc
    split at hc
    · rename_i b0 ops0 b1 o1 o2 rest hb
      split at hc
      · rename_i t g caps gs g1 ir rs hd hgs hg1 hir hrs
        split at hc
        · rename_i hok
          simp only [Bool.and_eq_true, Bool.not_eq_true'] at hok
          obtain ⟨⟨hrec, hnm⟩, hnt⟩ := hok
          have hnt := Nat.le_of_ble_eq_true hnt
          cases hc
          obtain ⟨hlen, h⟩ := chk_spec h
          have hlen : args.length = fn.params.size + fn.nfree := Nat.eq_of_beq_eq_true hlen
          obtain ⟨e, h, he⟩ := envF_spec h
          refine ⟨by simp [hf, hb, hnm], fun ρ w vs hRH hA => calls_of_wp_defers hf hb ?_⟩
          have hvl : vs.length = args.length := hA.length.symm
          have hm : H.length = ρ.length := hRH.len.symm
          rw [hm] at h
          have hR0 : Rel w0 ⟨w, image ρ H, ρ, []⟩ fn.ntmps ρ ⟨e, H⟩ { tmps := vs.toArray ++ Array.replicate (fn.ntmps - vs.toArray.size) undef, defers := [] } w := by
            refine ⟨?_, rfl, fun t x hx => ?_, ⟨hRH, FrameP.refl _ _, fun g hg => .inl hg, ⟨[], by simp⟩⟩⟩
            · simp
              omega
            · obtain ⟨a, rfl, _, ha⟩ := he t x hx
              obtain ⟨v, hv, hav⟩ := hA.at_ _ _ ha
              refine ⟨v, ?_, hav⟩
              have hv : vs[t]? = some v := by simpa using hv
              have htl := (List.getElem?_eq_some_iff.1 hv).1
              rw [Array.getElem?_append_left (by simpa using htl)]
              simpa using hv
          -- the results' cells
          have h : evGs P w0 gs ⟨e, H⟩ fun s1 => evG P w0 g1 s1 fun s2 => evC P w0 ρ.length ir s2 (evEnd w0 ρ.length rs R) := h
          refine wp_seq (wp_mono (wp_region_list (evGs_sound (K := fun e s1 => match e with | .normal => evG P w0 g1 s1 fun s2 => evC P w0 ρ.length ir s2 (evEnd w0 ρ.length rs R) | _ => False) hgs h hR0)) fun e1 a1 w1 hq => ?_)
          obtain ⟨_, s1, ρ1, hK1, hR1⟩ := hq
          cases e1 <;> first | exact hK1.elim | skip
          -- the closure, and that it is put off
          have hdef := hd
          unfold dfr2 at hdef
          split at hdef
          · rename_i t1 g' caps' t' ts hd1 ho1 hgd1 hd2 ho2 hgd2
            have htt : t1 = t' := by
              cases hb2 : Nat.beq t1 t' with
              | true => exact Nat.eq_of_beq_eq_true hb2
              | false => rw [hb2] at hdef; cases hdef
            subst htt
            simp only [Nat.beq_refl, cond_true, Option.some.injEq, Prod.mk.injEq] at hdef
            obtain ⟨rfl, rfl, rfl⟩ := hdef
            obtain ⟨hi, hdst, hdN, _⟩ := compG_spec hg1
            have hq1 : g1.i.quiet = true := by
              simp only [compI, ho1] at hi
              split at hi
              · obtain ⟨xs, _, hgi⟩ := map_some hi
                rw [← hgi]
                rfl
              · cases hi
            rcases evG_cases hg1 hK1 hR1.env with ⟨_, e', h, hE', _⟩ | ⟨hw, _⟩
            · obtain ⟨x, v, C, hput, hx, hCw, hrun, _⟩ := quiet_of (s := ⟨e', s1.H⟩) (cx := ⟨w, image ρ H, ρ, []⟩) hE' hR1.core hi hq1 h
              obtain ⟨s2, hs2, hR2, _⟩ := put_spec hput hR1.sz hR1.df hE' hR1.core (fun k hk => hdN k (by rw [← hdst]; exact hk)) hx
              rw [hdst, hd1] at hR2
              have hrun1 : (execOp a1.eval o1).run P w1 = .ok (.value (.func (.func g') #[] (caps'.map a1.eval))) w1 := by
                simp [execOp, ho1, Instr.makeFunc]
              have hv : v = .func (.func g') #[] (caps'.map a1.eval) := by
                have := hrun w1 hCw
                rw [hrun1] at this
                simpa using this.symm
              have htN : t1 < a1.tmps.size := by rw [hR1.sz]; exact hdN t1 hd1
              refine wp_seq (wp_region_list (P := P) (ops := #[o1, o2]) ?_)
              show wpList P #[o1, o2] _ [o1, o2] a1 w1
              unfold wpList
              rw [if_pos (by simp [Region.wanted, hgd1])]
              refine .inl ?_
              unfold Oper.wp
              rw [hrun1, Oper.upon_value, hd1]
              unfold wpList
              rw [if_pos (by simp [Region.wanted, hgd2])]
              refine .inl ?_
              have hev : (a1.put (some t1) (.func (.func g') #[] (caps'.map a1.eval))).eval (.tmp t1) = .func (.func g') #[] (caps'.map a1.eval) := by
                simp [Act.eval, Act.put, htN]
              have hrun2 : (execOp (a1.put (some t1) (.func (.func g') #[] (caps'.map a1.eval))).eval o2).run P w1 = .ok (.defer { target := .fn (.func g') (caps'.map a1.eval), args := #[] }) w1 := by
                simp [execOp, ho2, resolve, hev, Deferred.ofValue]
              unfold Oper.wp
              rw [hrun2, Oper.upon_defer, hd2]
              rw [hv] at hR2
              have hR3 := hR2.ds [{ target := .fn (.func g') (caps'.map a1.eval), args := #[] }]
              have hdf2 : (a1.put (some t1) (.func (.func g') #[] (caps'.map a1.eval))).defers = [] := hR2.df
              unfold wpList
              rw [hdf2]
              refine wp_mono (evC_sound (cx := ⟨w, image ρ H, ρ, [{ target := .fn (.func g') (caps'.map a1.eval), args := #[] }]⟩) rest ir hir _ _ ρ1 _ w1 hs2 hR3) fun ex a' w' hq => ?_
              obtain ⟨hok, s', ρ', hK, hR⟩ := hq
              have key : (resF w0 s' rs fun l => Fin ρ.length R (resV l) s'.H) → Leaves P fn a'.tmps (fun en w' => ∃ r H' ρ' v, R r H' ∧ en = .returned v ∧ AV.R ρ' r v ∧ RH w0 ρ' H' w' ∧ (∃ t, ρ' = ρ ++ t) ∧ FrameP w (image ρ H) w' ∧ ∀ g, image ρ' H' g → image ρ H g ∨ w.heap.size ≤ g) a'.defers .returning w' := by
                intro hres
                obtain ⟨xs, v, hfin, hrun, hxv⟩ := results_spec hR.env hR.core.rh hrs hres
                obtain ⟨hcd, fn2, hf2, hn2, hb2⟩ := recov_calls (P := P) hrec (caps'.map a1.eval) w'
                rw [hR.df]
                refine ⟨by simp, .func g', _, g', caps'.map a1.eval, rfl, ?_, hcd.mono fun e u' w'' he => ?_⟩
                · have hn3 : ¬ fn2.name = "runtime.NumGoroutine" := by simpa using hn2
                  have hb3 : ¬ fn2.body = none := by intro h0; rw [h0] at hb2; cases hb2
                  simp [invoke, callFunc, run_program, hf2, hn3, hb3]
                · obtain ⟨⟨v', rfl⟩, rfl, rfl⟩ := he
                  refine ⟨v, hrun, ?_⟩
                  rcases hfin with hfin | ⟨σ, r0, H0, hemb, hr, hfin⟩
                  · exact ⟨_, _, ρ', v, hfin, rfl, hxv, hR.core.rh, hR.core.pre, hR.core.fr, hR.core.own⟩
                  · have hcore := EmbH.core hemb rfl hR.core
                    rw [hr] at hxv
                    exact ⟨_, _, _, v, hfin, rfl, AV.R.of_ren hxv, hcore.rh, hcore.pre, hcore.fr, hcore.own⟩
              cases ex with
              | normal => exact key hK
              | ret => exact key hK
              | exit id => exact hK.elim
              | _ => cases hok
            · rw [show Region.wanted o1 _ = true by simp [Region.wanted, hgd1]] at hw
              cases hw
          · cases hdef
        · cases hc
      · cases hc
    · cases hc
end
end Go.Vc
