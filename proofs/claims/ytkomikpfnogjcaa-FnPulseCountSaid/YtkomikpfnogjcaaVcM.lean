/- Slices, bytes and texts. -/
import Derived.Test.YtkomikpfnogjcaaVcL
import Derived.Lib.ConvBytes
namespace Go.Vc
open Go.RowKit (Below)
section
variable {P : Program} {w0 : World} {cx : Cx} {ρ : Ren} {s : S} {K : AV → S → Prop} {a : Act} {o : Oper} {w : World}

theorem opt_R (hE : EnvR ρ s.env a.tmps) {q : Option Operand} {q' : Option X} {d : Nat} {k : IntKind → Int → Prop} (hq : optX q = some q') (hg : getI s.env (q'.getD (.k (.int .i64 d))) k) :
    ∃ kd n, k kd n ∧ ((q = none ∧ n = d) ∨ ∃ y, q = some y ∧ a.eval y = .int kd n) := by
  cases q with
  | none =>
    simp only [optX, Option.some.injEq] at hq
    subst hq
    simp only [Option.getD_none, getI, X.get] at hg
    exact ⟨_, _, hg, .inl ⟨rfl, rfl⟩⟩
  | some y =>
    simp only [optX] at hq
    cases hy : compX y with
    | none => simp [hy] at hq
    | some z =>
      simp only [hy, Option.map_some, Option.some.injEq] at hq
      subst hq
      simp only [Option.getD_some] at hg
      obtain ⟨kd, n, hk, hn⟩ := getI_R hE hy hg
      exact ⟨kd, n, hk, .inr ⟨y, rfl, hn⟩⟩

/-- A slice of a slice. -/
theorem run_slc {t e : TypeId} {wd : Nat} (hu : P.underlying t = some (.slice e)) (hs : sizeT P e = some wd) {x : Operand} {lo hi : Option Operand} (hop : o.op = .slice t x lo hi none) {A : Option Addr} {n c : Nat} (he : a.eval x = .slice A n c) {l h : Int}
    {k1 k2 : IntKind} (hl : (lo = none ∧ l = 0) ∨ ∃ y, lo = some y ∧ a.eval y = .int k1 l) (hh : (hi = none ∧ h = n) ∨ ∃ y, hi = some y ∧ a.eval y = .int k2 h) (h0 : 0 ≤ l) (h1 : l ≤ h) (h2 : h ≤ c) (w : World) :
    (execOp a.eval o).run P w = .ok (.value (.slice (if c = l.toNat then A else A.map (·.add (l.toNat * wd))) (h.toNat - l.toNat) (c - l.toNat))) w := by
  have hh0 : 0 ≤ h := by omega
  have e1 : l ≤ max h 0 := by omega
  rcases hl with ⟨rfl, rfl⟩ | ⟨y, rfl, hl⟩ <;> rcases hh with ⟨rfl, rfl⟩ | ⟨z, rfl, hh⟩
  · simp [execOp, hop, he, Instr.sliceAt, Instr.slice, run_underlying hu, Instr.sliceBounds, run_sizeT hs]
  · simp [execOp, hop, he, hh, Instr.sliceAt, Instr.slice, run_underlying hu, Instr.sliceBounds, Instr.sliceBound, asIntOf, hh0, h2, run_sizeT hs]
  · have e2 : l ≤ (n : Int) := h1
    simp [execOp, hop, he, hl, Instr.sliceAt, Instr.slice, run_underlying hu, Instr.sliceBounds, Instr.sliceBound, asIntOf, h0, e2, run_sizeT hs]
  · simp [execOp, hop, he, hl, hh, Instr.sliceAt, Instr.slice, run_underlying hu, Instr.sliceBounds, Instr.sliceBound, asIntOf, h0, hh0, h2, e1, run_sizeT hs]

theorem e_slc (hE : EnvR ρ s.env a.tmps) (hC : Core w0 cx ρ s.H w) {t e : TypeId} {wd : Nat} {x : Operand} {lo hi : Option Operand} {x' : X} {lo' hi' : Option X} (hop : o.op = .slice t x lo hi none) (hu : P.underlying t = some (.slice e)) (hs : sizeT P e = some wd)
    (hx : compX x = some x') (hlo : optX lo = some lo') (hhi : optX hi = some hi') (h : evI P w0 (.slc x' lo' hi' wd) s K) : EOk P w0 cx o a ρ s K w := by
  simp only [evI] at h
  obtain ⟨z, hA1, hR⟩ := getC_R hE hx h
  clear h
  obtain ⟨k1, l, h, hl⟩ := opt_R (d := 0) hE hlo hA1
  clear hA1
  have hl : (lo = none ∧ l = 0) ∨ ∃ y, lo = some y ∧ a.eval y = .int k1 l := by simpa using hl
  have hsame : ∀ {t : Ren}, t = [] → Core w0 cx (ρ ++ t) s.H w := fun ht => by subst ht; rw [List.append_nil]; exact hC
  split at h
  case h_1 b n =>
    obtain ⟨k2, r, ⟨⟨h0, h1, h2⟩, hK⟩, hh⟩ := opt_R hE hhi h
    clear h
    obtain ⟨e1, hρ, hRv⟩ := hR
    rcases hK with ⟨hK1, hK2, hK3⟩ | ⟨hl0, hK⟩
    · rcases hRv with ⟨g, hg, hv, hnc⟩ | ⟨hg, hn, hv⟩
      · have hr := run_slc hu hs hop hv hl hh h0 h1 (by omega) w
        by_cases hlc : l < e1.2
        · refine eok_of_run ⟨_, s, [], _, w, hK1 e1.2 (by omega) hlc, rfl, ⟨g, by rw [List.append_nil, at_of_get hρ, hg], rfl, by omega⟩, hsame rfl, ?_⟩
          rw [hr, if_neg (by omega)]
          simp [addr_add]
        · have hln : l = n := by omega
          refine eok_of_run ⟨_, s, [], _, w, hK2 hln, rfl, ⟨g, by rw [List.append_nil, at_of_get hρ, hg], rfl, Nat.le_refl _⟩, hsame rfl, ?_⟩
          rw [hr, if_pos (by omega)]
          have e3 : r.toNat - l.toNat = 0 := by omega
          have e4 : e1.2 - l.toNat = 0 := by omega
          rw [e3, e4]
          simp
      · subst hn
        have hl0 : l = 0 := by omega
        subst hl0
        have hr0 : r = 0 := by omega
        subst hr0
        have hr := run_slc hu hs hop hv hl hh (by omega) (by omega) (by omega) w
        refine eok_of_run ⟨_, s, [], _, w, hK3 rfl rfl, rfl, ⟨rfl, rfl⟩, hsame rfl, ?_⟩
        rw [hr]
        rfl
    · subst hl0
      split at hK
      case h_2 => exact hK.elim
      case h_1 α wr T en bs wd' xs hb =>
        obtain ⟨_, hp⟩ := setF_spec hK
        have hK' := pushF_spec hp
        obtain ⟨e2, hρ2, h3, hlen, h4⟩ := hC.rh.get hb
        rw [hρ] at hρ2
        cases hρ2
        have hid : (ρ ++ [e1])[0 + (s.H.set b .dead).length]? = some e1 := by rw [Nat.zero_add, List.length_set, ← hC.rh.len]; simp
        have hmove : Core w0 cx (ρ ++ [e1]) (s.H.set b .dead ++ [.vec wr T en bs wd' (xs.take r.toNat)]) w := by
          refine hC.move hb rfl hρ rfl rfl rfl (Nat.le_refl _) (fun _ _ _ => rfl) ⟨h3, hlen, ?_⟩ fun g hg => ⟨.inl hg, (hC.rh.ok b _ _ hb hρ).block rfl hg⟩
          rcases h4 with ⟨h4, hx0, hz⟩ | ⟨g', arr, fz, k2, k3, k4, k5, hc, ⟨sp, k6, k7⟩, k8⟩
          · exact .inl ⟨h4, by rw [hx0]; simp, hz⟩
          · refine .inr ⟨g', arr, fz, k2, k3, k4, by rw [List.length_take]; omega, hc, ?_, k8⟩
            have hsplit : flat en bs xs = flat en bs (xs.take r.toNat) ++ flat en bs (xs.drop r.toNat) := by
              conv => lhs; rw [← List.take_append_drop r.toNat xs]
              simp only [flat, List.flatMap_append]
            rw [hsplit, List.append_assoc] at k6
            obtain ⟨m1, m2, hm, hA1, hA2⟩ := k6.split_
            refine ⟨List.replicate m2.length .any, ?_, fun x hx => List.eq_of_mem_replicate hx⟩
            rw [hm]
            refine (hA1.mono fun _ _ => CV.R.more _).append ?_
            have ho := hA2.one'
            clear hA2 hm
            induction m2 with
            | nil => exact .nil
            | cons x r ih => exact .cons (ho x (by simp)) (ih fun u hu => ho u (by simp [hu]))
        rcases hRv with ⟨g, hg, hv, hnc⟩ | ⟨hg, hn, hv⟩
        · have hr := run_slc hu hs hop hv hl hh (Int.le_refl _) h1 (by omega) w
          refine eok_of_run ⟨_, _, [e1], _, w, hK', rfl, ⟨e1, hid, .inl ⟨g, hg, rfl, by omega⟩⟩, hmove, ?_⟩
          rw [hr]
          split <;> simp [addr_add]
        · subst hn
          have hr0 : r = 0 := by omega
          subst hr0
          have hr := run_slc hu hs hop hv hl hh (Int.le_refl _) (Int.le_refl _) (by omega) w
          refine eok_of_run ⟨_, _, [e1], .slice none 0 0, w, hK', rfl, ⟨e1, hid, .inr ⟨hg, rfl, rfl⟩⟩, hmove, ?_⟩
          rw [hr]
          simp
  case h_2 b wd' o' n c =>
    obtain ⟨k2, r, hch, hh⟩ := opt_R hE hhi h
    clear h
    obtain ⟨hw, ⟨h0, h1, h2⟩, hK1, hK2⟩ := chk_spec hch
    have hw2 : wd' = wd := by simpa using hw
    subst hw2
    obtain ⟨g, hg, hv, hnc⟩ := hR
    have hr := run_slc hu hs hop hv hl hh h0 h1 (by omega) w
    by_cases hlc : l < c
    · refine eok_of_run ⟨_, s, [], _, w, hK1 hlc, rfl, ⟨g, by rw [List.append_nil, hg], rfl, by omega⟩, hsame rfl, ?_⟩
      rw [hr, if_neg (by omega)]
      simp [addr_add, Nat.add_mul]
    · have hln : l = n := by omega
      refine eok_of_run ⟨_, s, [], _, w, hK2 hln hlc, rfl, ⟨g, by rw [List.append_nil, hg], rfl, Nat.le_refl _⟩, hsame rfl, ?_⟩
      rw [hr, if_pos (by omega)]
      have e3 : r.toNat - l.toNat = 0 := by omega
      have e4 : c - l.toNat = 0 := by omega
      rw [e3, e4]
  case h_3 =>
    obtain ⟨k2, r, ⟨hl0, hr0, hK⟩, hh⟩ := opt_R (d := 0) hE hhi h
    clear h
    subst hl0
    subst hr0
    have hr := run_slc hu hs hop hR.1 hl (by simpa using hh) (Int.le_refl _) (Int.le_refl _) (by omega) w
    rcases hK with hK | ⟨T, α, en, hw, hlen, hp⟩
    · refine eok_of_run ⟨_, s, [], _, w, hK, rfl, ⟨rfl, rfl⟩, hsame rfl, ?_⟩
      rw [hr]
      rfl
    · have hK' := pushF_spec hp
      refine eok_of_run ⟨_, _, [(none, 0)], .slice none 0 0, w, hK', rfl, ⟨(none, 0), ?_, .inr ⟨rfl, rfl, rfl⟩⟩, ?_, ?_⟩
      · rw [Nat.zero_add, List.getElem?_append_right (by rw [hC.rh.len]; exact Nat.le_refl _), hC.rh.len, Nat.sub_self]
        rfl
      · exact hC.pushG (e' := (none, 0)) (w' := w) rfl rfl rfl (Nat.le_refl _) (fun _ _ => rfl) ⟨hw, hlen, .inl ⟨rfl, rfl, rfl⟩⟩ (fun g hg => by cases hg)
      · rw [hr]
        rfl
  case h_4 ad n c =>
    obtain ⟨k2, r, ⟨⟨h0, h1, h2⟩, hK⟩, hh⟩ := opt_R hE hhi h
    clear h
    have hr := run_slc hu hs hop hR.1 hl hh h0 h1 h2 w
    refine eok_of_run ⟨_, s, [], _, w, hK, rfl, ⟨rfl, rfl⟩, hsame rfl, ?_⟩
    rw [hr]
    split <;> rfl
  case h_5 => exact h.elim

theorem e_s2b (hE : EnvR ρ s.env a.tmps) (hC : Core w0 cx ρ s.H w) {src dst e : TypeId} {x : Operand} {x' : X} (hop : o.op = .convert src dst x) (hsrc : P.underlying src = some .string) (hdst : P.underlying dst = some (.slice e)) (he : P.underlying e = some (.int .u8))
    (hx : compX x = some x') (h : evI P w0 (.s2b e x') s K) : EOk P w0 cx o a ρ s K w := by
  simp only [evI] at h
  obtain ⟨b, ⟨hsz, hp⟩, hv⟩ := getS_R hE hx h
  have hK := pushF_spec hp
  have hge := grownCap_ge w b.size 0 e
  have hle := grownCap_le_maxLen w b.size 0 e (by simp only [maxLen]; omega)
  have hrun : (execOp a.eval o).run P w = .ok (.value (.slice (some ⟨w.heap.size, 0, none⟩) b.size (grownCap w b.size 0 e))) (Lib.bytesWorld w e b) := by
    simp only [execOp, hop, hv, Sem.run_bind, Lib.run_convert_string_bytes w src dst e b hsrc hdst he, Result.andThen_ok]
    rfl
  have hbl : (bytesOf b).length = b.size := by simp [bytesOf]
  refine eok_of_run ⟨_, _, [(some w.heap.size, grownCap w b.size 0 e)], .slice (some ⟨w.heap.size, 0, none⟩) b.size (grownCap w b.size 0 e), Lib.bytesWorld w e b, hK, rfl, ⟨(some w.heap.size, grownCap w b.size 0 e), by rw [Nat.zero_add, ← hC.rh.len]; simp, .inl ⟨w.heap.size, rfl, by rw [hbl], by rw [hbl]; exact hge⟩⟩, ?_, hrun⟩
  have hsz2 := Lib.bytesWorld_size w e b
  refine hC.pushG (e' := (some w.heap.size, grownCap w b.size 0 e)) (w' := Lib.bytesWorld w e b) (k := .vec false e (encI .u8) [] 1 (bytesOf b)) rfl rfl rfl (by omega) (fun j hj => Lib.bytesWorld_at_old w e b j hj) ⟨by omega, fun _ => rfl, .inr ⟨w.heap.size, Lib.bytesCells w e b, _, rfl, Lib.bytesWorld_at_new w e b, ?_, by simpa [bytesOf] using hge, by simpa [maxLen] using hle, ⟨List.replicate (grownCap w b.size 0 e - b.size) .any, ?_, fun x hx => List.eq_of_mem_replicate hx⟩, fun h => by cases h⟩⟩ fun g hg => by cases hg; exact ⟨Nat.le_refl _, by omega⟩
  · simp only [Lib.bytesCells, Array.size_append, Array.size_map, Array.size_replicate, Nat.mul_one]
    exact Nat.add_sub_cancel' hge
  · simp only [Lib.bytesCells, Array.toList_append, Array.toList_map, Array.toList_replicate]
    refine All2.append ?_ ?_
    · simp only [bytesOf]
      generalize b.data.toList = l
      induction l with
      | nil => exact .nil
      | cons x r ih => exact .cons ⟨rfl, rfl⟩ ih
    · generalize grownCap w b.size 0 e - b.size = n
      induction n with
      | zero => exact .nil
      | succ n ih => exact .cons rfl ih
theorem flat_encI (k : IntKind) : ∀ l : List Int, flat (encI k) [] l = l.map fun x => CV.val (.int k x)
  | [] => rfl
  | x :: r => by
    have := flat_encI k r
    simp only [flat, List.flatMap_cons, List.map_cons] at this ⊢
    rw [this]
    rfl

theorem e_b2s (hE : EnvR ρ s.env a.tmps) (hC : Core w0 cx ρ s.H w) {src dst e : TypeId} {x : Operand} {x' : X} (hop : o.op = .convert src dst x) (hsrc : P.underlying src = some (.slice e)) (hdst : P.underlying dst = some .string) (he : P.underlying e = some (.int .u8))
    (hx : compX x = some x') (h : evI P w0 (.b2s x') s K) : EOk P w0 cx o a ρ s K w := by
  simp only [evI] at h
  obtain ⟨c, ⟨hns, l, hs, hK⟩, hR⟩ := getC_R hE hx h
  obtain ⟨news, hA, hL, hF⟩ := src_sound (P := P) hC.rh (fun _ => rfl) hR hs
  have hnews : news = l.map (Value.int .u8) := by
    rw [flat_encI] at hA
    clear hL hF hK hs
    induction l generalizing news with
    | nil => cases hA; rfl
    | cons x r ih =>
      cases hA with
      | cons hx hr => rw [hx.1, ih _ hr]; rfl
  refine eok_of_run ⟨_, s, [], _, w, hK, rfl, ⟨rfl, rfl⟩, by rw [List.append_nil]; exact hC, ?_⟩
  have hF' := hF w rfl
  have hL' := hL w
  cases hv : a.eval x <;> simp only [hv, Builtin.lenOf, run_stuck, reduceCtorEq, Sem.run_pure, Result.ok.injEq] at hL'
  case slice A n cap =>
    obtain ⟨rfl, _⟩ := hL'
    cases A with
    | none =>
      rw [hv] at hF'
      simp only [Builtin.firstCells, Sem.run_pure, Result.ok.injEq] at hF'
      have hn : news = [] := by have := congrArg Array.toList hF'.1; simpa using this.symm
      have hl0 : l = [] := by rw [hnews] at hn; simpa using hn
      subst hl0
      simp [execOp, hop, hv, convert, run_underlying hsrc, run_underlying hdst, run_underlying he, Conv.bytesToString, strOf]
    | some ad =>
      rw [hv] at hF'
      simp only [Builtin.firstCells, Nat.mul_one, hnews] at hF'
      have hb := run_bytesToString (P := P) w ad l.length cap l hF'
      simp only [execOp, hop, hv, Sem.run_bind, run_convert_bytes_string w src dst e _ _ _ hsrc he hdst, hb, Result.andThen_ok, strOf]
      rfl
  case string b =>
    exfalso
    cases c <;> simp only [CV.R, hv] at hR
    case val x => obtain ⟨rfl, _⟩ := hR; exact hns
    case ptr => obtain ⟨_, _, h⟩ := hR; cases h
    case row => obtain ⟨_, _, h⟩ := hR; cases h
    case sli => obtain ⟨_, _, h, _⟩ := hR; cases h
    case vec => obtain ⟨_, _, h⟩ := hR; rcases h with ⟨_, _, h, _⟩ | ⟨_, _, h⟩ <;> cases h
    case clo => obtain ⟨_, h, _⟩ := hR; cases h
    case ifc => obtain ⟨_, _, h⟩ := hR; cases h
    case kb => cases hR
    case any => exact hs
theorem set_same {H : List Blk} {b : Nat} {k : Blk} (h : H[b]? = some k) : H.set b k = H := by
  apply List.ext_getElem?
  intro i
  by_cases hi : b = i
  · subst hi
    rw [List.getElem?_set_self (List.getElem?_eq_some_iff.1 h).1, h]
  · rw [List.getElem?_set_ne hi]
theorem flat_append {α : Type} {e : Enc α} {bs : List Nat} (xs ys : List α) : flat e bs (xs ++ ys) = flat e bs xs ++ flat e bs ys := by simp [flat]
theorem e_cpy (hE : EnvR ρ s.env a.tmps) (hC : Core w0 cx ρ s.H w) {t e : TypeId} {x y : Operand} {x' y' : X} {wd : Nat} {args : Array Operand} {ts : Array TypeId}
    (hop : o.op = .call { callee := .builtin .copy, args := args, argTypes := ts }) (hargs : args.toList = [x, y]) (hts : ts[0]? = some t) (ht : P.underlying t = some (.slice e))
    (hs : sizeT P e = some wd) (hx : compX x = some x') (hy : compX y = some y') (h : evI P w0 (.cpy wd x' y') s K) : EOk P w0 cx o a ρ s K w := by
  simp only [evI] at h
  obtain ⟨c, hA1, hR⟩ := getC_R hE hx h
  clear h
  obtain ⟨d, h, hRd⟩ := getC_R hE hy hA1
  clear hA1
  have hav : args.map a.eval = #[a.eval x, a.eval y] := by apply Array.toList_inj.1; simp [hargs]
  have hrunop : ∀ v' w', (Builtin.copy_ ts o.type #[a.eval x, a.eval y]).run P w = .ok v' w' → (execOp a.eval o).run P w = .ok (.value v') w' := by
    intro v' w' hr
    rw [run_call_builtin hop, hav]
    simp [builtin, hr]
  split at h
  case h_1 b n =>
    split at h
    case h_2 => exact h.elim
    case h_1 α wr T en bs wd' xs hbk =>
      obtain ⟨hck, hn, ys, hsrc, hle, hset⟩ := chk_spec h
      clear h
      simp only [Bool.and_eq_true] at hck
      obtain ⟨hwr, hw⟩ := hck
      have hw2 : wd' = wd := by simpa using hw
      subst hwr hw2
      obtain ⟨_, hK⟩ := setF_spec hset
      obtain ⟨e1, hρ, h0, hlen, h2⟩ := hC.rh.get hbk
      obtain ⟨news, hAn, hL, hF⟩ := src_sound (P := P) hC.rh hlen hRd hsrc
      have hnl : news.length = ys.length * wd' := by rw [← hAn.length, flat_length hlen]
      obtain ⟨e1', he1, hRv⟩ := hR
      rw [hρ] at he1
      cases he1
      obtain ⟨eo, cap⟩ := e1
      have hgo : ∀ (ys' : Nat), goInt ys' = Value.int .i64 ys' := fun _ => rfl
      rcases h2 with ⟨h2, hx0, _⟩ | ⟨g', arr, fz, h2, h3, h4, h5, hc, ⟨sp, h6, h7⟩, h8⟩
      · subst hx0
        have hn0 : n = 0 := by simpa using hn
        subst hn0
        have hy0 : ys = [] := List.length_eq_zero_iff.1 (by omega)
        subst hy0
        have hv : a.eval x = .slice none 0 0 := by
          rcases hRv with ⟨g, hg, _, _⟩ | ⟨_, _, hv⟩
          · rw [h2] at hg; cases hg
          · exact hv
        refine eok_of_run ⟨_, _, [], _, w, hK, rfl, ⟨rfl, rfl⟩, ?_, hrunop _ _ ?_⟩
        · rw [List.append_nil]
          simp only [List.nil_append, List.drop_nil]
          rw [set_same hbk]
          exact hC
        · have hF' := hF w rfl
          simp only [List.length_nil] at hF' hL
          simp [Builtin.copy_, hts, run_underlying ht, hv, hL, run_sizeT hs, hF']
          rfl
      · simp only at h2
        subst h2
        have hfz := h8 rfl
        subst hfz
        obtain ⟨hv, hnc⟩ : a.eval x = .slice (some ⟨g', 0, none⟩) n cap ∧ n ≤ cap := by
          rcases hRv with ⟨g, hg, hv, hnc⟩ | ⟨hg, _⟩
          · cases hg; exact ⟨hv, hnc⟩
          · cases hg
        have hF' := hF w rfl
        have hmul : ys.length * wd' ≤ xs.length * wd' := Nat.mul_le_mul_right _ (by omega)
        have hxl := flat_length hlen xs
        have hal : xs.length * wd' ≤ arr.size := by
          have := h6.length
          simp only [List.length_append, Array.length_toList] at this
          omega
        have hone : ∀ u ∈ news, u.oneCell' = true := by
          intro u hu
          obtain ⟨k, hk, rfl⟩ := List.mem_iff_getElem.1 hu
          have hk2 : k < (flat en bs ys).length := by rw [hAn.length]; exact hk
          obtain ⟨u', hu', hcu⟩ := hAn.at_ k _ (List.getElem?_eq_getElem hk2)
          rw [List.getElem?_eq_getElem hk] at hu'
          cases hu'
          exact hcu.one
        have hst := run_storeCells_at P g' 0 T news 0 arr w h3 (by rw [hnl]; simp only [Nat.zero_add]; omega) hone
        obtain ⟨f1, f2, f3, f4, f5⟩ := setRow_facts (w := w) g' (arr.toList.take (0 + 0) ++ news ++ arr.toList.drop (0 + 0 + news.length)).toArray
        refine eok_of_run ⟨_, _, [], _, w.setRow g' (arr.toList.take (0 + 0) ++ news ++ arr.toList.drop (0 + 0 + news.length)).toArray, hK, rfl, ⟨rfl, rfl⟩, ?_, hrunop _ _ ?_⟩
        · rw [List.append_nil]
          refine hC.set hbk rfl hρ f1 f2 f3 f4 f5 ⟨h0, hlen, .inr ⟨g', _, (0, 0), rfl, setRow_heap w g' arr _ T _ h3, ?_, ?_, hc, ⟨sp, ?_, h7⟩, fun _ => rfl⟩⟩
          · simp only [List.size_toArray, List.length_append, List.length_take, List.length_drop, Array.length_toList]
            simp only at h4
            omega
          · simp only [List.length_append, List.length_drop]
            omega
          · simp only [Nat.add_zero, List.take_zero, List.nil_append, Nat.zero_add]
            rw [flat_append, List.append_assoc]
            refine All2.append hAn ?_
            rw [hnl, ← flat_drop hlen _ _ (by omega)]
            have := h6.drop_ (ys.length * wd')
            rwa [List.drop_append_of_le_length (by omega)] at this
        · have hmin : Nat.min ys.length n = ys.length := Nat.min_eq_left hle
          simp [Builtin.copy_, hts, run_underlying ht, hv, hL, run_sizeT hs, hmin, hF', hst, hgo]
  all_goals exact h.elim
end
end Go.Vc
