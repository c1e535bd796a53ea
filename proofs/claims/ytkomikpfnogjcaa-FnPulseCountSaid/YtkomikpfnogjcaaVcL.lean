/- Appends, makes, slices, calls: what is asked of their instructions is enough. -/
import Derived.Test.YtkomikpfnogjcaaVcK
namespace Go.Vc
open Go.RowKit (Below)
section
variable {P : Program} {w0 : World} {cx : Cx} {ρ : Ren} {s : S} {K : AV → S → Prop} {a : Act} {o : Oper} {w : World} {H : List Blk}

/-- A block more, in a new place or in none. -/
theorem Core.pushG (hC : Core w0 cx ρ H w) {k : Blk} {e' : Option Nat × Nat} {w' : World} (h1 : w'.os = w.os) (h2 : w'.tape = w.tape) (h3 : w'.output = w.output) (h4 : w.heap.size ≤ w'.heap.size) (h5 : ∀ i, i < w.heap.size → w'.heap[i]? = w.heap[i]?)
    (hk : k.ok (ρ ++ [e']) e' w') (he' : ∀ g, e'.1 = some g → w.heap.size ≤ g ∧ g < w'.heap.size) : Core w0 cx (ρ ++ [e']) (H ++ [k]) w' := by
  have hlen := hC.rh.len
  have hlast : ∀ (b : Nat) (q : Blk), (H ++ [k])[b]? = some q → (b < H.length ∧ H[b]? = some q) ∨ (b = H.length ∧ q = k) := by
    intro b q hq
    rcases Nat.lt_or_ge b H.length with hb | hb
    · rw [List.getElem?_append_left hb] at hq; exact .inl ⟨hb, hq⟩
    · have hb2 : b < (H ++ [k]).length := (List.getElem?_eq_some_iff.1 hq).1
      have : b = H.length := by simp at hb2; omega
      subst this
      simp at hq
      exact .inr ⟨rfl, hq.symm⟩
  have hatl : ∀ b, b < H.length → Ren.at (ρ ++ [e']) b = ρ.at b := fun b hb => by
    unfold Ren.at
    rw [List.getElem?_append_left (by omega)]
  have hatn : Ren.at (ρ ++ [e']) H.length = e'.1 := by
    unfold Ren.at
    rw [← hlen]
    simp
  refine Core.next hC (by simp [hlen]) ⟨h1, h2, h3, h4, fun i hi _ => h5 i hi⟩ (fun b q e hq he => ?_) (fun b1 b2 q1 q2 g x1 x2 l1 l2 a1 a2 => ?_) (fun g hg => ?_)
  · rcases hlast b q hq with ⟨hb, hq'⟩ | ⟨rfl, rfl⟩
    · rw [List.getElem?_append_left (by omega)] at he
      have hok := hC.rh.ok b q e hq' he
      exact (hok.keep fun g hg hl => h5 g (hok.block hl hg)).more _
    · rw [← hlen] at he
      simp at he
      subst he
      exact hk
  · rcases hlast b1 q1 x1 with ⟨hb1, hq1⟩ | ⟨rfl, rfl⟩ <;> rcases hlast b2 q2 x2 with ⟨hb2, hq2⟩ | ⟨rfl, rfl⟩
    · rw [hatl b1 hb1] at a1
      rw [hatl b2 hb2] at a2
      exact hC.rh.inj b1 b2 q1 q2 g hq1 hq2 l1 l2 a1 a2
    · rw [hatl b1 hb1] at a1
      rw [hatn] at a2
      have := (hC.rh.lo _ (image_get hq1 l1 a1)).2
      have := (he' g a2).1
      omega
    · rw [hatl b2 hb2] at a2
      rw [hatn] at a1
      have := (hC.rh.lo _ (image_get hq2 l2 a2)).2
      have := (he' g a1).1
      omega
    · rfl
  · rcases image_app hlen hg with h | h
    · exact ⟨.inl h, by have := (hC.rh.lo g h).2; omega⟩
    · exact ⟨.inr (he' g h).1, (he' g h).2⟩

/-- What an owned row is, as a told block. -/
theorem vec_of_owned {α : Type} {e : Enc α} {bs : List Nat} {wd : Nat} {T : TypeId} {xs : List α} {v : Value} {n : Nat} {vs : List Value} {w' : World} (hw : 0 < wd) (hlen : ∀ x, (e.f bs x).length = wd)
    (hown : w'.ownsRow 0 T wd v n vs) (hn : xs.length = n) (hone : ∀ g arr fz, v.ownBlock = some g → w'.heap[g]? = some (.cells arr T fz) → ∀ u ∈ arr.toList, u.oneCell' = true) :
    ∃ cap, (∀ ρ : Ren, All2 (CV.R ρ) (flat e bs xs) vs → (Blk.vec true T e bs wd xs).ok ρ (v.ownBlock, cap) w') ∧ (∀ (id : Nat) (ρ' : Ren), ρ'[id]? = some (v.ownBlock, cap) → (CV.vec id n).R ρ' v) ∧ (∀ g, v.ownBlock = some g → g < w'.heap.size) := by
  rcases hown.2 with ⟨rfl, rfl⟩ | ⟨g, cap, cur, rfl, _, hg, hnc, hcm, hcs, htake⟩
  · have hx : xs = [] := List.eq_nil_of_length_eq_zero hn
    subst hx
    exact ⟨0, fun ρ _ => ⟨hw, hlen, .inl ⟨rfl, rfl, rfl⟩⟩, fun id ρ' h => ⟨_, h, .inr ⟨rfl, rfl, rfl⟩⟩, fun g hg => by simp [Value.ownBlock] at hg⟩
  · refine ⟨cap, fun ρ hA => ⟨hw, hlen, .inr ⟨g, cur, (0, 0), rfl, hg, hcs, (by omega), (by simpa [maxLen] using hcm), ⟨List.replicate (cur.toList.drop (n * wd)).length .any, ?_, fun x hx => List.eq_of_mem_replicate hx⟩, fun _ => rfl⟩⟩, fun id ρ' h => ⟨_, h, .inl ⟨g, rfl, rfl, hnc⟩⟩, fun g' hg' => ?_⟩
    · have hsp : cur.toList = vs ++ cur.toList.drop (n * wd) := by rw [← htake]; exact (List.take_append_drop _ _).symm
      have ho := hone g cur (0, 0) rfl hg
      rw [hsp] at ho ⊢
      have hdl : (vs ++ cur.toList.drop (n * wd)).drop (n * wd) = cur.toList.drop (n * wd) := by
        rw [List.drop_append_of_le_length (by rw [hown.1]; exact Nat.le_refl _), List.drop_eq_nil_of_le (by rw [hown.1]; exact Nat.le_refl _), List.nil_append]
      rw [hdl]
      refine hA.append ?_
      have ho2 : ∀ u ∈ cur.toList.drop (n * wd), u.oneCell' = true := fun u hu => ho u (List.mem_append_right _ hu)
      generalize cur.toList.drop (n * wd) = l at ho2
      induction l with
      | nil => exact .nil
      | cons x r ih => exact .cons (ho2 x (by simp)) (ih fun u hu => ho2 u (by simp [hu]))
    · simp only [Value.ownBlock, Option.some.injEq] at hg'
      subst hg'
      exact (Array.getElem?_eq_some_iff.1 hg).1

theorem bytesT_spec {t : TypeId} {n b : Nat} {z : List Value} (hs : sizeT P t = some n) (hb : bytesT P t = some b) (hz : zeroT P t = some z) : ∃ i v, P.info? t = some i ∧ i.size = n ∧ i.bytes = b ∧ i.zero = some v ∧ v.cells.toList = z ∧ ∀ u ∈ z, u.oneCell' = true := by
  obtain ⟨i, hi, hn⟩ := sizeT_spec hs
  have hb' : i.bytes = b := by simpa [bytesT, hi] using hb
  unfold zeroT at hz
  split at hz
  · rename_i v hv
    split at hz
    · rename_i h1
      simp only [Option.some.injEq] at hz
      simp only [hi, Option.bind_some] at hv
      exact ⟨i, v, hi, hn, hb', hv, hz, fun u hu => List.all_eq_true.1 h1 u (by rw [hz]; exact hu)⟩
    · cases hz
  · cases hz

theorem e_app (hE : EnvR ρ s.env a.tmps) (hC : Core w0 cx ρ s.H w) {t u e : TypeId} {du : TypeDesc} {x y : Operand} {x' y' : X} {wd bt : Nat} {z : List Value} {args : Array Operand} {ts : Array TypeId}
    (hop : o.op = .call { callee := .builtin .append, args := args, argTypes := ts }) (hargs : args.toList = [x, y]) (hts : ts.toList = [t, u]) (ht : P.underlying t = some (.slice e)) (hu : P.underlying u = some du) (hdu : srcT du = true)
    (hs : sizeT P e = some wd) (hb : bytesT P e = some bt) (hz : zeroT P e = some z) (hzl : z.length = wd) (hx : compX x = some x') (hy : compX y = some y') (h : evI P w0 (.app e wd bt x' y') s K) : EOk P w0 cx o a ρ s K w := by
  simp only [evI] at h
  obtain ⟨c, hA1, hR⟩ := getC_R hE hx h
  clear h
  obtain ⟨d, h, hRd⟩ := getC_R hE hy hA1
  clear hA1
  obtain ⟨i, zv, hi, rfl, rfl, hiz, hzv, hz1⟩ := bytesT_spec hs hb hz
  have hzs : zv.cells.size = i.size := by rw [← hzl, ← hzv]; simp
  have hz1' : ∀ u ∈ zv.cells.toList, u.oneCell' = true := by rw [hzv]; exact hz1
  have hav : args.map a.eval = #[a.eval x, a.eval y] := by apply Array.toList_inj.1; simp [hargs]
  have htv : ts = #[t, u] := Array.toList_inj.1 (by simp [hts])
  have hrunop : ∀ v' w', (Builtin.append_ #[t, u] o.type #[a.eval x, a.eval y]).run P w = .ok v' w' → (execOp a.eval o).run P w = .ok (.value v') w' := by
    intro v' w' hr
    rw [run_call_builtin hop, hav, htv]
    simp [builtin, hr]
  split at h
  case h_1 b n =>
    split at h
    case h_2 => exact h.elim
    case h_1 α wr T' en bs wd' xs hbk =>
      obtain ⟨hck, hn, ys, hsrc, hby, h63, hset⟩ := chk_spec h
      clear h
      simp only [Bool.and_eq_true] at hck
      obtain ⟨hwr, hT, hw⟩ := hck
      have hT2 : T' = e := by simpa using hT
      have hw2 : wd' = i.size := by simpa using hw
      subst hwr hT2 hw2
      obtain ⟨_, hpush⟩ := setF_spec hset
      have hK := pushF_spec hpush
      clear hset hpush
      obtain ⟨e1, hρ, h0, hlen, h2⟩ := hC.rh.get hbk
      obtain ⟨news, hAn, hL, hF⟩ := src_sound (P := P) hC.rh hlen hRd hsrc
      have hnl : news.length = ys.length * i.size := by rw [← hAn.length, flat_length hlen]
      obtain ⟨e1', he1, hRv⟩ := hR
      rw [hρ] at he1
      cases he1
      -- the row that is appended to
      have howned : ∃ vs, w.ownsRow 0 T' i.size (a.eval x) n vs ∧ All2 (CV.R ρ) (flat en bs xs) vs ∧ (a.eval x).ownBlock = e1.1 ∧ (∀ g cur, (a.eval x).ownBlock = some g → w.heap[g]? = some (.cells cur T' (0, 0)) → ∀ u ∈ cur.toList, u.oneCell' = true) := by
        rcases h2 with ⟨h2, hx0, _⟩ | ⟨g', arr, fz, h2, h3, h4, h5, hc, ⟨sp, h6, h7⟩, h8⟩
        · subst hx0
          have hn0 : n = 0 := by simpa using hn
          subst hn0
          rcases hRv with ⟨g, hg, _, _⟩ | ⟨_, _, hv⟩
          · rw [h2] at hg; cases hg
          · rw [hv]
            exact ⟨[], World.ownsRow_nil w 0 T' i.size, .nil, by simp [Value.ownBlock, h2], fun g cur hg => by simp [Value.ownBlock] at hg⟩
        · rcases hRv with ⟨g, hg, hv, _⟩ | ⟨hg, _⟩
          · rw [h2] at hg
            cases hg
            have hfz := h8 rfl
            subst hfz
            obtain ⟨m1, m2, hm, hA1, hA2⟩ := h6.split_
            have hm1 : m1.length = n * i.size := by rw [← hA1.length, flat_length hlen, hn]
            rw [hv]
            refine ⟨m1, ⟨hm1, .inr ⟨g', e1.2, arr, rfl, Nat.zero_le _, h3, by omega, by simp only [maxLen]; omega, h4, ?_⟩⟩, hA1, by simp [Value.ownBlock, h2], fun g cur hg hh => ?_⟩
            · rw [hm, ← hm1]; exact List.take_left
            · simp only [Value.ownBlock, Option.some.injEq] at hg
              subst hg
              rw [h3] at hh
              simp only [Option.some.injEq, Obj.cells.injEq] at hh
              obtain ⟨rfl, _, _⟩ := hh
              exact h6.one'
          · rw [h2] at hg; cases hg
      obtain ⟨vs, hown, hAx, hob, hone⟩ := howned
      have hnm : (xs ++ ys).length = n + ys.length := by rw [List.length_append, hn]
      rw [hnm] at hby h63
      obtain ⟨v', w', hr, hown', hgr, hob', hone'⟩ := run_append_gen (P := P) (ty := o.type) ht hu hdu hi hiz hzs hown hL hF hnl hAn.one' (by simp only [maxLen]; omega) hby hz1' hAx.one' hone
      have hAall : All2 (CV.R ρ) (flat en bs (xs ++ ys)) (vs ++ news) := by
        have : flat en bs (xs ++ ys) = flat en bs xs ++ flat en bs ys := by simp [flat]
        rw [this]
        exact hAx.append hAn
      obtain ⟨cap, hok, hRn, hlt⟩ := vec_of_owned (e := en) (bs := bs) (xs := xs ++ ys) h0 hlen hown' hnm hone'
      have hCn : Core w0 cx (ρ ++ [(v'.ownBlock, cap)]) (s.H.set b .dead ++ [.vec true T' en bs i.size (xs ++ ys)]) w' := by
        refine hC.move hbk rfl hρ hgr.os hgr.tape hgr.output hgr.size (fun j hj hne => hgr.block j hj (by rw [hob]; exact hne)) (hok _ (hAall.mono fun _ _ => CV.R.more _)) fun g hg => ⟨?_, hlt g hg⟩
        rcases hob' with h | h
        · exact .inl (by rw [← hob, ← h]; exact hg)
        · rw [h] at hg
          cases hg
          exact .inr (Nat.le_refl _)
      refine eok_of_run ⟨_, _, _, _, _, hK, rfl, ?_, hCn, hrunop _ _ hr⟩
      have := hRn (0 + (s.H.set b .dead).length) (ρ ++ [(v'.ownBlock, cap)]) (by rw [Nat.zero_add, List.length_set, ← hC.rh.len]; simp)
      rw [← hnm] at this
      exact this
  case h_2 =>
    obtain ⟨h0, α, en, bs, ys, hlen, hsrc, hby, h63, hpush⟩ := h
    have hK := pushF_spec hpush
    clear hpush
    obtain ⟨hv, _⟩ := hR
    obtain ⟨news, hAn, hL, hF⟩ := src_sound (P := P) hC.rh hlen hRd hsrc
    have hnl : news.length = ys.length * i.size := by rw [← hAn.length, flat_length hlen]
    have hown : w.ownsRow 0 e i.size (a.eval x) 0 [] := by rw [hv]; exact World.ownsRow_nil w 0 e i.size
    obtain ⟨v', w', hr, hown', hgr, hob', hone'⟩ := run_append_gen (P := P) (ty := o.type) ht hu hdu hi hiz hzs hown hL hF hnl hAn.one' (by simp only [maxLen]; omega) (by rw [Nat.zero_add]; exact hby) hz1' (by simp) (fun g cur hg => by rw [hv] at hg; simp [Value.ownBlock] at hg)
    rw [Nat.zero_add, List.nil_append] at hown'
    obtain ⟨cap, hok, hRn, hlt⟩ := vec_of_owned (e := en) (bs := bs) (xs := ys) h0 hlen hown' rfl hone'
    have hob : (a.eval x).ownBlock = none := by rw [hv]; rfl
    have hCn : Core w0 cx (ρ ++ [(v'.ownBlock, cap)]) (s.H ++ [.vec true e en bs i.size ys]) w' := by
      refine hC.pushG hgr.os hgr.tape hgr.output hgr.size (fun j hj => hgr.block j hj (by rw [hob]; exact nofun)) (hok _ (hAn.mono fun _ _ => CV.R.more _)) fun g hg => ⟨?_, hlt g hg⟩
      rcases hob' with h | h
      · rw [h, hob] at hg; cases hg
      · rw [h] at hg
        cases hg
        exact Nat.le_refl _
    exact eok_of_run ⟨_, _, _, _, _, hK, rfl, hRn (0 + s.H.length) (ρ ++ [(v'.ownBlock, cap)]) (by rw [Nat.zero_add, ← hC.rh.len]; simp), hCn, hrunop _ _ hr⟩
  case h_3 => exact h.elim

theorem e_mks (hE : EnvR ρ s.env a.tmps) (hC : Core w0 cx ρ s.H w) {t e : TypeId} {x y : Operand} {x' y' : X} {wd bt : Nat} {z : List Value} (hop : o.op = .makeSlice t x y) (ht : P.underlying t = some (.slice e))
    (hs : sizeT P e = some wd) (hb : bytesT P e = some bt) (hz : zeroT P e = some z) (hzl : z.length = wd) (hx : compX x = some x') (hy : compX y = some y') (h : evI P w0 (.mks e wd bt z x' y') s K) : EOk P w0 cx o a ρ s K w := by
  simp only [evI] at h
  obtain ⟨k1, n, hA1, he1⟩ := getI_R hE hx h
  clear h
  obtain ⟨k2, c, ⟨⟨hn0, hnc, hby, hc63, hw⟩, hm⟩, he2⟩ := getI_R hE hy hA1
  clear hA1
  obtain ⟨α, en, q, hlen, hq, hpush⟩ := mapF_spec hm
  have hK := pushF_spec hpush
  clear hpush hm
  obtain ⟨i, zv, hi, rfl, rfl, hiz, hzv, hz1⟩ := bytesT_spec hs hb hz
  have hzs : zv.cells.size = i.size := by rw [← hzl, ← hzv]; simp
  have hr := run_make (P := P) w t e i zv ht hi hiz k1 k2 n c hn0 hnc (by rw [Int.mul_comm]; omega) (by omega)
  obtain ⟨n, rfl⟩ := Int.eq_ofNat_of_zero_le hn0
  obtain ⟨c, rfl⟩ := Int.eq_ofNat_of_zero_le (Int.le_trans hn0 hnc)
  simp only [Int.toNat_natCast] at hr hK
  have hnc' : n ≤ c := by omega
  have hcells : (madeCells zv.cells (c * i.size)).toList = (List.replicate n z).flatten ++ (List.replicate (c - n) z).flatten := by
    have := range_zero (len := c) hzs (by omega)
    rw [hzv] at this
    rw [madeCells, this, ← List.flatten_append, List.replicate_append_replicate]
    congr 2
    omega
  have hflat : flat en [] (List.replicate n q) = (List.replicate n (z.map .val)).flatten := by
    rw [← hq]
    clear hr hK hcells hnc hnc' hn0 he1
    induction n with
    | zero => rfl
    | succ n ih => simp only [flat, List.replicate_succ, List.flatMap_cons, List.flatten_cons] at ih ⊢; rw [ih]
  have hzR : ∀ (ρ : Ren) (n : Nat), All2 (CV.R ρ) (List.replicate n (z.map .val)).flatten (List.replicate n z).flatten := by
    intro ρ n
    induction n with
    | zero => exact .nil
    | succ n ih => simp only [List.replicate_succ, List.flatten_cons]; exact (zero_R hz1).append ih
  have hspare : ∀ (ρ : Ren), All2 (CV.R ρ) (List.replicate ((List.replicate (c - n) z).flatten).length .any) (List.replicate (c - n) z).flatten := by
    intro ρ
    have ho : ∀ u ∈ (List.replicate (c - n) z).flatten, u.oneCell' = true := fun u hu => by
      obtain ⟨l, hl, hul⟩ := List.mem_flatten.1 hu
      rw [List.eq_of_mem_replicate hl] at hul
      exact hz1 u hul
    generalize (List.replicate (c - n) z).flatten = l at ho
    induction l with
    | nil => exact .nil
    | cons x r ih => exact .cons (ho x (by simp)) (ih fun u hu => ho u (by simp [hu]))
  obtain ⟨f1, f2, f3, f4⟩ := alloc_facts (w := w) (.cells (madeCells zv.cells (c * i.size)) e)
  have hCn : Core w0 cx (ρ ++ [(some w.heap.size, c)]) (s.H ++ [.vec true e en [] i.size (List.replicate n q)]) (w.alloc (.cells (madeCells zv.cells (c * i.size)) e)) := by
    refine hC.push f1 f2 f3 f4 ⟨hw, hlen, .inr ⟨w.heap.size, madeCells zv.cells (c * i.size), (0, 0), rfl, by rw [f4]; simp, size_madeCells _ _, by simpa using hnc', by omega, ⟨List.replicate ((List.replicate (c - n) z).flatten).length .any, ?_, fun x hx => List.eq_of_mem_replicate hx⟩, fun _ => rfl⟩⟩
    · rw [hcells, hflat]
      exact (hzR _ n).append (hspare _)
  refine eok_of_run ⟨_, _, _, .slice (some ⟨w.heap.size, 0, none⟩) n c, _, hK, rfl, ⟨(some w.heap.size, c), by rw [Nat.zero_add, ← hC.rh.len]; simp, .inl ⟨_, rfl, rfl, hnc'⟩⟩, hCn, ?_⟩
  simp [execOp, hop, he1, he2, hr]

theorem e_call (hE : EnvR ρ s.env a.tmps) (hC : Core w0 cx ρ s.H w) {f : FuncId} {args : Array Operand} {ts : Array TypeId} {xs : List X} (hop : o.op = .call { callee := .value (.func f), args := args, argTypes := ts })
    (hx : compXs args.toList = some xs) (h : evI P w0 (.call f xs) s K) : EOk P w0 cx o a ρ s K w := by
  simp only [evI] at h
  obtain ⟨l, hcall, hA⟩ := get1s_R hE hx h
  clear h
  intro next Q hn
  have hcal := hcall.cal
  have hout := hcall.out ρ w _ hC.rh hA
  have hrun : (execOp a.eval o).run P w = .ok (.enter f (args.toList.map a.eval).toArray) w := by
    cases hf : P.funcs[f]? with
    | none => rw [hf] at hcal; cases hcal
    | some fn =>
      have eargs : (args.toList.map a.eval).toArray = args.map a.eval := by apply Array.toList_inj.1; simp
      rw [hf] at hcal
      simp only [Bool.and_eq_true, Bool.not_eq_true'] at hcal
      obtain ⟨hb, hnm⟩ := hcal
      have hnb : fn.body.isNone = false := by cases hbd : fn.body with | none => rw [hbd] at hb; cases hb | some _ => rfl
      simp only [execOp, hop, resolve, Act.eval, Deferred.ofValue, Sem.run_bind, Sem.run_pure, Result.andThen_ok, invoke, callFunc, run_program, hf, hnm, hnb, eargs]
      simp
  unfold Oper.wp
  rw [hrun, Oper.upon_enter]
  refine hout.mono fun e w' he => ?_
  obtain ⟨r, H', ρ', v, hK, rfl, hR, hRH, ⟨t, rfl⟩, hfr, himg⟩ := he
  refine hn r { s with H := H' } t v w' hK rfl hR ?_
  refine Core.next hC hRH.len hfr hRH.ok hRH.inj fun g hg => ⟨himg g hg, (hRH.lo g hg).2⟩
end
end Go.Vc
