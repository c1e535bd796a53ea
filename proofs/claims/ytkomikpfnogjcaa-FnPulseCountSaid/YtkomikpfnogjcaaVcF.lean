/- More operations that only read. -/
import Derived.Test.YtkomikpfnogjcaaVcE
namespace Go.Vc
open Go.RowKit (Below)
section
variable {P : Program} {w0 : World} {ρ : Ren} {s : S} {K : AV → S → Prop} {a : Act} {o : Oper}

theorem sizeT_spec {t : TypeId} {n : Nat} (h : sizeT P t = some n) : ∃ i, P.info? t = some i ∧ i.size = n := by
  unfold sizeT at h
  cases hi : P.info? t with
  | none => simp [hi] at h
  | some i => exact ⟨i, rfl, by simpa [hi] using h⟩
theorem run_sizeT {t : TypeId} {n : Nat} (h : sizeT P t = some n) (w : World) : (sizeOf t).run P w = .ok n w := by
  obtain ⟨i, hi, rfl⟩ := sizeT_spec h
  simp [sizeOf, typeInfo, hi]
theorem aggT_spec {t : TypeId} {n : Option Nat} (h : aggT P t = some n) : (n = none ∧ ∀ w, (isAgg t).run P w = .ok false w) ∨ ∃ m, n = some m ∧ sizeT P t = some m ∧ ∀ w, (isAgg t).run P w = .ok true w := by
  unfold aggT at h
  split at h
  · rename_i fs hu
    cases hs : sizeT P t with
    | none => simp [hs] at h
    | some m => simp only [hs, Option.map_some, Option.some.injEq] at h; exact .inr ⟨m, h.symm, rfl, fun w => by simp [isAgg, run_underlying hu]⟩
  · rename_i k e hu
    cases hs : sizeT P t with
    | none => simp [hs] at h
    | some m => simp only [hs, Option.map_some, Option.some.injEq] at h; exact .inr ⟨m, h.symm, rfl, fun w => by simp [isAgg, run_underlying hu]⟩
  · rename_i d h1 h2 hu
    simp only [Option.some.injEq] at h
    refine .inl ⟨h.symm, fun w => ?_⟩
    cases d <;> first
      | exact (h1 _ rfl).elim
      | exact (h2 _ _ rfl).elim
      | simp [isAgg, run_underlying hu]
  · cases h

theorem q_beq (hE : EnvR ρ s.env a.tmps) {op : BinOp} {t u : TypeId} {x y : Operand} {x' y' : X} {neg : Bool} (hop : o.op = .binOp op t x y u) (hu : P.underlying t = some .bool) (hn : (op = .eql ∧ neg = false) ∨ (op = .neq ∧ neg = true))
    (hx : compX x = some x') (hy : compX y = some y') (h : evI P w0 (.beq neg x' y') s K) : QOk P o a ρ s K := by
  simp only [evI] at h
  obtain ⟨b, h, he⟩ := getB_R hE hx h
  obtain ⟨b', h, he'⟩ := getB_R hE hy h
  have heq : ∀ w', (Op.equal t (.bool b) (.bool b')).run P w' = .ok (b == b') w' := fun w' => by
    have h1 : ∀ d : Nat, (Op.equalIn (d + 1) t (.bool b) (.bool b')).run P w' = .ok (b == b') w' := fun d => by simp [Op.equalIn, run_underlying hu]
    simp [Op.equal, Op.maxDepth, h1 9999]
  refine ⟨_, _, h, ⟨rfl, rfl⟩, fun w' => ?_⟩
  rcases hn with ⟨rfl, rfl⟩ | ⟨rfl, rfl⟩
  · simp [execOp, hop, he, he', eqGuard_bool, binOp, heq]
  · simp [execOp, hop, he, he', eqGuard_bool, binOp, heq]
theorem q_un (hE : EnvR ρ s.env a.tmps) {op : UnOp} {t : TypeId} {x : Operand} {x' : X} (hop : o.op = .unOp op t x) (hx : compX x = some x') (h : evI P w0 (.un op x') s K) : QOk P o a ρ s K := by
  simp only [evI] at h
  obtain ⟨z, h1, hR⟩ := getC_R hE hx h
  cases z <;> simp only at h1
  case val v =>
    obtain ⟨he, _⟩ := hR
    unfold un1 at h1
    cases op <;> simp only at h1 <;> cases v <;> simp only at h1
    case neg.int k n => exact ⟨_, _, h1, ⟨rfl, rfl⟩, fun w' => by simp [execOp, hop, he, Op.unary, Op.intArith]⟩
    case not.bool b => exact ⟨_, _, h1, ⟨rfl, rfl⟩, fun w' => by simp [execOp, hop, he, Op.unary]⟩
    case xor.int k n => exact ⟨_, _, h1, ⟨rfl, rfl⟩, fun w' => by simp only [execOp, hop, he, Op.unary, Op.intBits, Sem.run_bind, Sem.run_pure, Result.andThen_ok]⟩
theorem q_cvi (hE : EnvR ρ s.env a.tmps) {src dst : TypeId} {k0 k : IntKind} {x : Operand} {x' : X} (hop : o.op = .convert src dst x) (hs : P.underlying src = some (.int k0)) (hd : P.underlying dst = some (.int k)) (hx : compX x = some x')
    (h : evI P w0 (.cvi k x') s K) : QOk P o a ρ s K := by
  simp only [evI] at h
  obtain ⟨d, n, h, he⟩ := getI_R hE hx h
  exact ⟨_, _, h, ⟨rfl, rfl⟩, fun w' => by simp [execOp, hop, he, convert, run_underlying hs, run_underlying hd, Conv.intToInt]⟩
theorem q_str (hE : EnvR ρ s.env a.tmps) {src dst : TypeId} {x : Operand} {x' : X} (hop : o.op = .convert src dst x) (hs : P.underlying src = some .string) (hd : P.underlying dst = some .string) (hx : compX x = some x')
    (h : evI P w0 (.cps x') s K) : QOk P o a ρ s K := by
  simp only [evI] at h
  obtain ⟨b, h, he⟩ := getS_R hE hx h
  exact ⟨_, _, h, ⟨rfl, rfl⟩, fun w' => by simp [execOp, hop, he, convert, run_underlying hs, run_underlying hd]⟩

theorem q_ia (hE : EnvR ρ s.env a.tmps) {t e : TypeId} {x i : Operand} {x' i' : X} {wd : Nat} (hop : o.op = .indexAddr t x i) (hu : P.underlying t = some (.slice e)) (hs : sizeT P e = some wd) (hx : compX x = some x') (hi : compX i = some i')
    (h : evI P w0 (.ia x' i' wd) s K) : QOk P o a ρ s K := by
  simp only [evI] at h
  obtain ⟨z, hA1, hR⟩ := getC_R hE hx h
  clear h
  obtain ⟨d, n, h, hei⟩ := getI_R hE hi hA1
  clear hA1
  have hrun : ∀ (ad : Addr) (l c : Nat) (w' : World), a.eval x = .slice (some ad) l c → 0 ≤ n → n < l → (execOp a.eval o).run P w' = .ok (.value (.pointer (some (ad.add (n.toNat * wd))))) w' := by
    intro ad l c w' he h0 h1
    simp [execOp, hop, he, hei, Instr.indexAt, asIntOf, run_underlying hu, run_sizeT hs, h0, h1]
  split at h
  case h_1 b l =>
    obtain ⟨⟨h0, h1⟩, h⟩ := h
    obtain ⟨e', he', hR⟩ := hR
    rcases hR with ⟨g, hg, he, _⟩ | ⟨_, hl, _⟩
    · exact ⟨_, _, h, ⟨g, by rw [at_of_get he', hg], rfl⟩, fun w' => by rw [hrun _ _ _ w' he h0 h1, addr_add]; simp⟩
    · omega
  case h_2 b wd' o' l c =>
    obtain ⟨hw, h⟩ := chk_spec h
    have hw2 : wd' = wd := by simpa using hw
    subst hw2
    obtain ⟨⟨h0, h1⟩, h⟩ := h
    obtain ⟨g, hg, he, _⟩ := hR
    exact ⟨_, _, h, ⟨g, hg, rfl⟩, fun w' => by rw [hrun _ _ _ w' he h0 h1, addr_add, Nat.add_mul]; simp⟩
  case h_3 ad l c =>
    obtain ⟨⟨h0, h1⟩, h⟩ := h
    exact ⟨_, _, h, ⟨rfl, rfl⟩, fun w' => by rw [hrun _ _ _ w' hR.1 h0 h1]⟩
  case h_4 A l c _ =>
    obtain ⟨⟨h0, h1⟩, ad, rfl, h⟩ := h
    exact ⟨_, _, h, ⟨rfl, rfl⟩, fun w' => by rw [hrun _ _ _ w' hR.1 h0 h1]⟩
  case h_5 => exact h.elim
theorem q_si (hE : EnvR ρ s.env a.tmps) {t : TypeId} {x i : Operand} {x' i' : X} (hop : o.op = .index t x i) (hu : P.underlying t = some .string) (hx : compX x = some x') (hi : compX i = some i')
    (h : evI P w0 (.si x' i') s K) : QOk P o a ρ s K := by
  simp only [evI] at h
  obtain ⟨b, h, he⟩ := getS_R hE hx h
  obtain ⟨d, n, h, hei⟩ := getI_R hE hi h
  obtain ⟨y, hy, h⟩ := h
  exact ⟨_, _, h, ⟨rfl, rfl⟩, fun w' => by simp only [execOp, hop, he, hei, Instr.index, asIntOf, Sem.run_bind, Sem.run_pure, Result.andThen_ok, run_underlying hu, hy]⟩

theorem run_call_builtin {b : Builtin} {args : Array Operand} {ts : Array TypeId} (hop : o.op = .call { callee := .builtin b, args := args, argTypes := ts }) (w : World) :
    (execOp a.eval o).run P w = (builtin b ts o.type (args.map fun | .const _ => true | _ => false) (args.map a.eval)).run P w := by
  simp only [execOp, hop, resolve, invoke, Sem.run_bind, Sem.run_pure, Result.andThen_ok]
  cases b <;> rfl
theorem q_len (hE : EnvR ρ s.env a.tmps) {t : TypeId} {x : Operand} {x' : X} {str : Bool} {args : Array Operand} {ts : Array TypeId} (hop : o.op = .call { callee := .builtin .len, args := args, argTypes := ts }) (ha : args.toList = [x]) (ht : ts.toList = [t])
    (hu : (str = true ∧ P.underlying t = some .string) ∨ (str = false ∧ ∃ e, P.underlying t = some (.slice e))) (hx : compX x = some x') (h : evI P w0 (.len str x') s K) : QOk P o a ρ s K := by
  simp only [evI] at h
  obtain ⟨z, h, hR⟩ := getC_R hE hx h
  have hargs : args.map a.eval = #[a.eval x] := by
    apply Array.toList_inj.1
    simp [ha]
  have hts : ts = #[t] := Array.toList_inj.1 (by simp [ht])
  have hslice : str = false → ∀ A n c w', a.eval x = .slice A n c → (execOp a.eval o).run P w' = .ok (.value (.int .i64 n)) w' := by
    intro hs A n c w' he
    rcases hu with ⟨h1, _⟩ | ⟨_, e, hu⟩
    · rw [hs] at h1; cases h1
    · rw [run_call_builtin hop, hargs, hts, he]
      simp [builtin, Builtin.len_, run_underlying hu, goInt]
  have hstring : str = true → ∀ b w', a.eval x = .string b → (execOp a.eval o).run P w' = .ok (.value (.int .i64 b.size)) w' := by
    intro hs b w' he
    rcases hu with ⟨_, hu⟩ | ⟨h1, _⟩
    · rw [run_call_builtin hop, hargs, hts, he]
      simp [builtin, Builtin.len_, run_underlying hu, goInt]
    · rw [hs] at h1; cases h1
  split at h
  case h_1 b l =>
    obtain ⟨e', he', hR⟩ := hR
    rcases hR with ⟨g, hg, he, _⟩ | ⟨_, hl, he⟩
    · exact ⟨_, _, h, ⟨rfl, rfl⟩, fun w' => hslice rfl _ _ _ w' he⟩
    · subst hl
      exact ⟨_, _, h, ⟨rfl, rfl⟩, fun w' => hslice rfl _ _ _ w' he⟩
  case h_2 b wd o' l c =>
    obtain ⟨g, hg, he, _⟩ := hR
    exact ⟨_, _, h, ⟨rfl, rfl⟩, fun w' => hslice rfl _ _ _ w' he⟩
  case h_3 A l c => exact ⟨_, _, h, ⟨rfl, rfl⟩, fun w' => hslice rfl _ _ _ w' hR.1⟩
  case h_4 b => exact ⟨_, _, h, ⟨rfl, rfl⟩, fun w' => hstring rfl _ w' hR.1⟩
  case h_5 => exact h.elim
theorem q_sls (hE : EnvR ρ s.env a.tmps) {t : TypeId} {x : Operand} {lo hi : Option Operand} {x' : X} {lo' hi' : Option X} (hop : o.op = .slice t x lo hi none) (hu : P.underlying t = some .string) (hx : compX x = some x') (hlo : optX lo = some lo') (hhi : optX hi = some hi')
    (h : evI P w0 (.sls x' lo' hi') s K) : QOk P o a ρ s K := by
  simp only [evI] at h
  obtain ⟨b, h, he⟩ := getS_R hE hx h
  have hopt : ∀ {q : Option Operand} {q' : Option X} {d : Nat} {k : IntKind → Int → Prop}, optX q = some q' → getI s.env (q'.getD (.k (.int .i64 d))) k →
      ∃ kd n, k kd n ∧ ((q = none ∧ n = d) ∨ ∃ y, q = some y ∧ a.eval y = .int kd n) := by
    intro q q' d k hq hg
    cases q with
    | none =>
      simp only [optX, Option.some.injEq] at hq
      subst hq
      simp only [Option.getD_none, getI, X.get] at hg
      exact ⟨_, _, hg, .inl ⟨rfl, rfl⟩⟩
    | some y =>
      simp only [optX] at hq
      cases hy : compX y with
      | none => simp [hy] at hq
      | some z =>
        simp only [hy, Option.map_some, Option.some.injEq] at hq
        subst hq
        simp only [Option.getD_some] at hg
        obtain ⟨kd, n, hk, hn⟩ := getI_R hE hy hg
        exact ⟨kd, n, hk, .inr ⟨y, rfl, hn⟩⟩
  obtain ⟨k1, l, h, hl⟩ := hopt (d := 0) hlo h
  obtain ⟨k2, r, h, hr⟩ := hopt hhi h
  obtain ⟨⟨h0, h1, h2⟩, h⟩ := h
  refine ⟨_, _, h, ⟨rfl, rfl⟩, fun w' => ?_⟩
  have hr0 : 0 ≤ r := by omega
  have hrl : l ≤ r := h1
  rcases hl with ⟨rfl, hl⟩ | ⟨y, rfl, hl⟩ <;> rcases hr with ⟨rfl, hr⟩ | ⟨z, rfl, hr⟩
  · subst hl; subst hr
    simp [execOp, hop, he, Instr.sliceAt, Instr.slice, run_underlying hu, Instr.sliceBounds]
  · subst hl
    simp [execOp, hop, he, hr, Instr.sliceAt, Instr.slice, run_underlying hu, Instr.sliceBounds, Instr.sliceBound, asIntOf, hr0, h2]
  · subst hr
    simp [execOp, hop, he, hl, Instr.sliceAt, Instr.slice, run_underlying hu, Instr.sliceBounds, Instr.sliceBound, asIntOf, h0, h1]
  · have e : l ≤ max r 0 := by omega
    simp [execOp, hop, he, hl, hr, Instr.sliceAt, Instr.slice, run_underlying hu, Instr.sliceBounds, Instr.sliceBound, asIntOf, h0, hr0, h2, e]

theorem foldl_min : ∀ {zs : List Operand} {xs : List X} {v : Value} {lt : Bool} {k : Value → Prop}, EnvR ρ s.env a.tmps → compXs zs = some xs → v.oneCell' = true → mnF lt v xs s.env k →
    ∃ r, k r ∧ r.oneCell' = true ∧ ∀ w', ((zs.map a.eval).foldlM (bif lt then Builtin.min2 else Builtin.max2) v).run P w' = .ok r w'
  | [], xs, v, lt, k, hE, hx, h1, h => by
    simp only [compXs, Option.some.injEq] at hx
    subst hx
    exact ⟨v, h, h1, fun w' => by simp⟩
  | z :: zs, xs, v, lt, k, hE, hx, h1, h => by
    simp only [compXs] at hx
    cases hz : compX z with
    | none => simp [hz] at hx
    | some z' =>
      cases hr : compXs zs with
      | none => simp [hz, hr] at hx
      | some l =>
        simp only [hz, hr, Option.some.injEq] at hx
        subst hx
        simp only [mnF] at h
        cases v <;> simp only at h
        case int d n =>
          obtain ⟨d', m, h, he⟩ := getI_R hE hz h
          obtain ⟨r, hk, h2, hrun⟩ := foldl_min (zs := zs) hE hr rfl h
          refine ⟨r, hk, h2, fun w' => ?_⟩
          have := hrun w'
          cases lt
          · simp only [cond_false] at this ⊢
            simp only [List.map_cons, List.foldlM_cons, he, Builtin.max2, Sem.run_bind, Sem.run_pure, Result.andThen_ok]
            exact this
          · simp only [cond_true] at this ⊢
            simp only [List.map_cons, List.foldlM_cons, he, Builtin.min2, Sem.run_bind, Sem.run_pure, Result.andThen_ok]
            exact this
theorem q_mn (hE : EnvR ρ s.env a.tmps) {args : Array Operand} {ts : Array TypeId} {x : X} {xs : List X} (hop : o.op = .call { callee := .builtin .min, args := args, argTypes := ts }) (hx : compXs args.toList = some (x :: xs))
    (h : evI P w0 (.mn x xs) s K) : QOk P o a ρ s K := by
  simp only [evI] at h
  cases hl : args.toList with
  | nil => simp [hl, compXs] at hx
  | cons y zs =>
    rw [hl] at hx
    simp only [compXs] at hx
    cases hy : compX y with
    | none => simp [hy] at hx
    | some y' =>
      cases hr : compXs zs with
      | none => simp [hy, hr] at hx
      | some l =>
        simp only [hy, hr, Option.some.injEq, List.cons.injEq] at hx
        obtain ⟨rfl, rfl⟩ := hx
        obtain ⟨d, n, h, he⟩ := getI_R hE hy h
        obtain ⟨r, hk, h1, hrun⟩ := foldl_min (P := P) hE hr rfl h
        refine ⟨_, _, hk, ⟨rfl, h1⟩, fun w' => ?_⟩
        rw [run_call_builtin hop]
        have := hrun w'
        simp only [cond_true] at this
        simp only [builtin, Builtin.min_, Array.toList_map, hl, List.map_cons, he, Sem.run_bind, this, Result.andThen_ok]
        rfl
theorem q_mx (hE : EnvR ρ s.env a.tmps) {args : Array Operand} {ts : Array TypeId} {x : X} {xs : List X} (hop : o.op = .call { callee := .builtin .max, args := args, argTypes := ts }) (hx : compXs args.toList = some (x :: xs))
    (h : evI P w0 (.mx x xs) s K) : QOk P o a ρ s K := by
  simp only [evI] at h
  cases hl : args.toList with
  | nil => simp [hl, compXs] at hx
  | cons y zs =>
    rw [hl] at hx
    simp only [compXs] at hx
    cases hy : compX y with
    | none => simp [hy] at hx
    | some y' =>
      cases hr : compXs zs with
      | none => simp [hy, hr] at hx
      | some l =>
        simp only [hy, hr, Option.some.injEq, List.cons.injEq] at hx
        obtain ⟨rfl, rfl⟩ := hx
        obtain ⟨d, n, h, he⟩ := getI_R hE hy h
        obtain ⟨r, hk, h1, hrun⟩ := foldl_min (P := P) hE hr rfl h
        refine ⟨_, _, hk, ⟨rfl, h1⟩, fun w' => ?_⟩
        rw [run_call_builtin hop]
        have := hrun w'
        simp only [cond_false] at this
        simp only [builtin, Builtin.max_, Array.toList_map, hl, List.map_cons, he, Sem.run_bind, this, Result.andThen_ok]
        rfl
theorem q_ext (hE : EnvR ρ s.env a.tmps) {x : Operand} {x' : X} {i : Nat} (hop : o.op = .extract x i) (hx : compX x = some x') (h : evI P w0 (.ext x' i) s K) : QOk P o a ρ s K := by
  simp only [evI] at h
  obtain ⟨z, _, h, hR⟩ := getV_R hE hx h
  cases z <;> simp only at h
  case t l =>
    obtain ⟨ys, he, hA⟩ := hR
    split at h
    · rename_i y hy
      obtain ⟨v, hv, hR⟩ := hA.at_ i y hy
      refine ⟨_, v, h, hR, fun w' => ?_⟩
      have hv' : ys[i]? = some v := by simpa using hv
      simp [execOp, hop, he, Instr.extract, hv']
    · exact h.elim
theorem q_mkf (hE : EnvR ρ s.env a.tmps) {g : FuncId} {first caps : Array Operand} {xs : List X} (hop : o.op = .makeFunc (.func g) first caps) (hf : first.size = 0) (hx : compXs caps.toList = some xs) (h : evI P w0 (.mkf g xs) s K) : QOk P o a ρ s K := by
  simp only [evI] at h
  obtain ⟨l, h, hA⟩ := getCs_R hE hx h
  have hgp : ∀ {l : List CV} {vs : List Value} {k : List (Nat × Nat) → Prop}, getP l k → All2 (CV.R ρ) l vs → ∃ ps, k ps ∧ All2 (fun (c : Nat × Nat) v => ∃ h, ρ.at c.1 = some h ∧ v = Value.pointer (some ⟨h, c.2, none⟩)) ps vs := by
    intro l
    induction l with
    | nil => intro vs k h hA; cases hA; exact ⟨[], h, .nil⟩
    | cons c r ih =>
      intro vs k h hA
      cases hA with
      | cons ha hr =>
        cases c <;> simp only [getP] at h
        case ptr b o' =>
          obtain ⟨ps, hk, hp⟩ := ih h hr
          exact ⟨_, hk, .cons ha hp⟩
  obtain ⟨ps, hk, hp⟩ := hgp h hA
  have hfirst : first = #[] := Array.eq_empty_of_size_eq_zero hf
  subst hfirst
  exact ⟨_, _, hk, ⟨caps.map a.eval, rfl, by simpa using hp⟩, fun w' => by simp [execOp, hop, Instr.makeFunc]⟩
theorem q_mki (hE : EnvR ρ s.env a.tmps) {t : TypeId} {x : Operand} {x' : X} (hop : o.op = .makeInterface t x) {d : TypeDesc} (hu : P.underlying t = some d) (hd : ∀ ms, d ≠ .interface ms) (hx : compX x = some x') (h : evI P w0 (.mki t x') s K) : QOk P o a ρ s K := by
  simp only [evI] at h
  obtain ⟨z, h, hR⟩ := getC_R hE hx h
  have hrun : ∀ v w', a.eval x = v → (execOp a.eval o).run P w' = .ok (.value (.iface t v)) w' := by
    intro v w' he
    simp only [execOp, hop, he, Instr.makeInterface, Sem.run_bind, run_underlying hu, Result.andThen_ok]
    cases d <;> first | exact absurd rfl (hd _) | rfl
  split at h
  case h_1 b o' =>
    obtain ⟨g, hg, he⟩ := hR
    exact ⟨_, _, h, ⟨g, hg, rfl⟩, fun w' => hrun _ w' he⟩
  case h_2 v => exact ⟨_, _, h, ⟨rfl, rfl⟩, fun w' => hrun _ w' hR.1⟩
  case h_3 => exact h.elim
end
end Go.Vc
