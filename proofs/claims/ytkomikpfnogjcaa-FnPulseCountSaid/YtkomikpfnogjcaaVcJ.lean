/- Operations that write: what is asked of their instructions is enough. -/
import Derived.Test.YtkomikpfnogjcaaVcI
namespace Go.Vc
open Go.RowKit (Below)
section
variable {P : Program} {w0 : World} {cx : Cx} {ρ : Ren} {s : S} {K : AV → S → Prop} {a : Act} {o : Oper} {w : World}

theorem flat_set {α : Type} {e : Enc α} {bs : List Nat} {wd : Nat} (h : ∀ x, (e.f bs x).length = wd) {vs : List CV} {j : Nat} {x x' : α} (hj : j + vs.length ≤ wd) (hx' : e.f bs x' = (e.f bs x).take j ++ (vs ++ (e.f bs x).drop (j + vs.length))) :
    ∀ {xs : List α} {i : Nat}, xs[i]? = some x → flat e bs (xs.set i x') = (flat e bs xs).take (i * wd + j) ++ (vs ++ (flat e bs xs).drop (i * wd + j + vs.length))
  | [], i, hi => by simp at hi
  | y :: r, 0, hi => by
    simp at hi
    subst hi
    have hl := h y
    simp only [flat, List.set_cons_zero, List.flatMap_cons, Nat.zero_mul, Nat.zero_add]
    rw [hx', List.take_append_of_le_length (by omega), List.drop_append_of_le_length (by omega)]
    simp [List.append_assoc]
  | y :: r, i + 1, hi => by
    have ih := flat_set h hj hx' (xs := r) (i := i) (by simpa using hi)
    have hl := h y
    simp only [flat, List.set_cons_succ, List.flatMap_cons] at ih ⊢
    rw [ih]
    have e1 : (i + 1) * wd + j = (e.f bs y).length + (i * wd + j) := by rw [hl, Nat.add_mul]; omega
    have e2 : (i + 1) * wd + j + vs.length = (e.f bs y).length + (i * wd + j + vs.length) := by rw [hl, Nat.add_mul]; omega
    rw [e1, List.take_length_add_append]
    have e3 : (e.f bs y).length + (i * wd + j) + vs.length = (e.f bs y).length + (i * wd + j + vs.length) := by omega
    rw [e3, List.drop_length_add_append]
    simp [List.append_assoc]

theorem setRow_facts (g : Nat) (c : Array Value) : (w.setRow g c).os = w.os ∧ (w.setRow g c).tape = w.tape ∧ (w.setRow g c).output = w.output ∧ (w.setRow g c).heap.size = w.heap.size ∧ ∀ i, i ≠ g → (w.setRow g c).heap[i]? = w.heap[i]? :=
  ⟨rfl, rfl, rfl, by simp, fun i hi => setRow_other w g i c hi⟩

theorem All2.one' {l : List CV} {vs : List Value} (h : All2 (CV.R ρ) l vs) : ∀ v ∈ vs, v.oneCell' = true := by
  induction h with
  | nil => simp
  | cons ha _ ih =>
    intro v hv
    rcases List.mem_cons.1 hv with rfl | hv
    · exact CV.R.one ha
    · exact ih v hv

theorem e_st (hE : EnvR ρ s.env a.tmps) (hC : Core w0 cx ρ s.H w) {t : TypeId} {x v : Operand} {x' v' : X} {n : Nat} (hop : o.op = .store t x v) (hs : sizeT P t = some n) (hx : compX x = some x') (hv : compX v = some v')
    (h : evI P w0 (.st x' v' n) s K) : EOk P w0 cx o a ρ s K w := by
  simp only [evI] at h
  obtain ⟨c, hA1, hR⟩ := getC_R hE hx h
  clear h
  obtain ⟨y, hA2, hy⟩ := get1_R hE hv hA1
  clear hA1
  obtain ⟨hn0, h⟩ := chk_spec hA2
  clear hA2
  have hn : y.cells.length = n := by simpa using hn0
  have hvs := hy.cells
  have hsz := hy.size
  -- a run of cells in a block of cells
  have hrun : ∀ (g off : Nat) (T : TypeId) (arr : Array Value), a.eval x = .pointer (some ⟨g, off, none⟩) → w.heap[g]? = some (.cells arr T (0, 0)) → off + y.cells.length ≤ arr.size →
      (execOp a.eval o).run P w = .ok .skip (w.setRow g (arr.toList.take off ++ (a.eval v).cells.toList ++ arr.toList.drop (off + y.cells.length)).toArray) := by
    intro g off T arr he hg hle
    have hl : (a.eval v).cells.toList.length = y.cells.length := hvs.length.symm
    have hst := run_storeCells_at P g off T (a.eval v).cells.toList 0 arr w hg (by rw [hl]; simpa using hle) hvs.one'
    simp only [Nat.add_zero, hl] at hst
    simp [execOp, hop, he, Instr.storeAt, Instr.sureAddr, storeVar, run_sizeT hs, hsz, hn, hst]
  have hcells : ∀ (b g off : Nat) (T : TypeId) (cs : List CV), a.eval x = .pointer (some ⟨g, off, none⟩) → ρ.at b = some g → s.H[b]? = some (.cells T cs) →
      putF off y.cells cs (fun l => setF b (.cells T l) s.H fun H => K (.t []) { s with H := H }) → EOk P w0 cx o a ρ s K w := by
    intro b g off T cs he hg hb hp
    obtain ⟨e, hρ, g', arr, h1, h2, h3⟩ := hC.rh.get hb
    obtain ⟨e1, cap⟩ := e
    simp only at h1
    subst h1
    rw [at_of_get hρ] at hg
    cases hg
    obtain ⟨hle, hp⟩ := putF_spec hp
    obtain ⟨_, hK⟩ := setF_spec hp
    have hle' : off + y.cells.length ≤ arr.size := by have := h3.length; simp at this; omega
    obtain ⟨f1, f2, f3, f4, f5⟩ := setRow_facts (w := w) g (arr.toList.take off ++ (a.eval v).cells.toList ++ arr.toList.drop (off + y.cells.length)).toArray
    have hnew : All2 (CV.R ρ) (cs.take off ++ (y.cells ++ cs.drop (off + y.cells.length))) (arr.toList.take off ++ (a.eval v).cells.toList ++ arr.toList.drop (off + y.cells.length)) := by
      rw [List.append_assoc]
      exact (h3.take_ off).append (hvs.append (h3.drop_ _))
    refine eok_of_skip ⟨_, [], _, hK, rfl, ?_, hrun g off T arr he h2 hle'⟩
    rw [List.append_nil]
    exact hC.set hb rfl hρ f1 f2 f3 f4 f5 ⟨g, _, rfl, setRow_heap w g arr _ T _ h2, by simpa using hnew⟩
  unfold stn at h
  split at h
  · rename_i b off
    split at h
    · rename_i T cs hb
      obtain ⟨g, hg, he⟩ := hR
      exact hcells b g off T cs he hg hb h
    · exact h.elim
  · rename_i b wd i j
    split at h
    · rename_i T cs hb
      obtain ⟨g, hg, he⟩ := hR
      exact hcells b g _ T cs he hg hb h
    · rename_i α wr T e bs wd' xs hb
      obtain ⟨hck, z, z', hz, hput0, hset⟩ := chk_spec h
      clear h
      simp only [Bool.and_eq_true] at hck
      obtain ⟨rfl, hw⟩ := hck
      have hw2 : wd = wd' := by simpa using hw
      subst hw2
      obtain ⟨g, hg, he⟩ := hR
      obtain ⟨e', hρ, h0, hlen, h2⟩ := hC.rh.get hb
      obtain ⟨e1, cap⟩ := e'
      rcases h2 with ⟨h2, _⟩ | ⟨g', arr, fz, h2, h3, h4, h5, hc, ⟨sp, h6, h7⟩, h8⟩
      · rw [at_of_get hρ, h2] at hg; cases hg
      · simp only at h2
        subst h2
        rw [at_of_get hρ] at hg
        cases hg
        have hfz := h8 rfl
        subst hfz
        obtain ⟨hle, hput⟩ := putF_spec hput0
        obtain ⟨_, hK⟩ := setF_spec hset
        have hlt : i < xs.length := (List.getElem?_eq_some_iff.1 hz).1
        have hj : j + y.cells.length ≤ wd := by have := hlen z; omega
        have hfl := flat_length hlen xs
        have hmul : (i + 1) * wd ≤ xs.length * wd := Nat.mul_le_mul_right _ hlt
        have hle2 : i * wd + j + y.cells.length ≤ (flat e bs xs).length := by rw [hfl]; rw [Nat.add_mul] at hmul; omega
        have hle' : i * wd + j + y.cells.length ≤ arr.size := by
          have := h6.length
          simp only [List.length_append, Array.length_toList] at this
          omega
        obtain ⟨f1, f2, f3, f4, f5⟩ := setRow_facts (w := w) g (arr.toList.take (i * wd + j) ++ (a.eval v).cells.toList ++ arr.toList.drop (i * wd + j + y.cells.length)).toArray
        refine eok_of_skip ⟨_, [], _, hK, rfl, ?_, hrun g _ T arr he h3 hle'⟩
        rw [List.append_nil]
        refine hC.set hb rfl hρ f1 f2 f3 f4 f5 ⟨h0, hlen, .inr ⟨g, _, (0, 0), rfl, setRow_heap w g arr _ T _ h3, ?_, by simpa using h5, hc, ⟨sp, ?_, h7⟩, fun _ => rfl⟩⟩
        · have hl : (a.eval v).cells.toList.length = y.cells.length := hvs.length.symm
          simp only [List.size_toArray, List.length_append, List.length_take, List.length_drop, Array.length_toList, hl]
          simp only at h4
          omega
        · rw [flat_set hlen hj hput hz]
          have e1 : (flat e bs xs ++ sp).take (i * wd + j) = (flat e bs xs).take (i * wd + j) := List.take_append_of_le_length (by omega)
          have e2 : (flat e bs xs ++ sp).drop (i * wd + j + y.cells.length) = (flat e bs xs).drop (i * wd + j + y.cells.length) ++ sp := List.drop_append_of_le_length hle2
          have hnew := (h6.take_ (i * wd + j)).append (hvs.append (h6.drop_ (i * wd + j + y.cells.length)))
          rw [e1, e2] at hnew
          simpa [List.append_assoc] using hnew
    · exact h.elim
  · exact h.elim

/-! ### New blocks -/
theorem run_new (T : TypeId) (cells : Array Value) (w : World) : (newRow T cells).run P w = .ok ⟨w.heap.size, 0, none⟩ (w.alloc (.cells cells T)) := by
  simp [newRow]
theorem alloc_facts (x : Obj) : (w.alloc x).os = w.os ∧ (w.alloc x).tape = w.tape ∧ (w.alloc x).output = w.output ∧ (w.alloc x).heap = w.heap.push x := ⟨rfl, rfl, rfl, rfl⟩

theorem Core.cells_new (hC : Core w0 cx ρ s.H w) {T : TypeId} {cs : List CV} {arr : Array Value} (hA : All2 (CV.R ρ) cs arr.toList) :
    Core w0 cx (ρ ++ [(some w.heap.size, 0)]) (s.H ++ [.cells T cs]) (w.alloc (.cells arr T)) := by
  obtain ⟨f1, f2, f3, f4⟩ := alloc_facts (w := w) (.cells arr T)
  exact hC.push f1 f2 f3 f4 ⟨w.heap.size, arr, rfl, by rw [f4]; simp, hA.mono fun _ _ => CV.R.more _⟩
theorem R_new (hC : Core w0 cx ρ s.H w) {cap : Nat} : (CV.ptr (0 + s.H.length) 0).R (ρ ++ [(some w.heap.size, cap)]) (.pointer (some ⟨w.heap.size, 0, none⟩)) := by
  refine ⟨w.heap.size, ?_, rfl⟩
  unfold Ren.at
  rw [Nat.zero_add, ← hC.rh.len]
  simp

theorem e_alc (hC : Core w0 cx ρ s.H w) {t : TypeId} {z : List Value} (hop : o.op = .alloc t) (hz : zeroT P t = some z) (h : evI P w0 (.alc t z) s K) : EOk P w0 cx o a ρ s K w := by
  simp only [evI] at h
  have h := pushF_spec (mapF_spec h)
  obtain ⟨h1, v, hv, hzr⟩ := zeroT_spec hz
  refine eok_of_run ⟨_, _, _, _, _, h, rfl, R_new hC (cap := 0), hC.cells_new (arr := v.cells) (by rw [hv]; exact zero_R h1), ?_⟩
  simp [execOp, hop, Instr.alloc, hzr, newVar, run_new]
theorem e_box (hE : EnvR ρ s.env a.tmps) (hC : Core w0 cx ρ s.H w) {t : TypeId} {x : Operand} {x' : X} (hop : o.op = .box t x) (hx : compX x = some x') (h : evI P w0 (.box t x') s K) : EOk P w0 cx o a ρ s K w := by
  simp only [evI] at h
  obtain ⟨y, h, hy⟩ := get1_R hE hx h
  have h := pushF_spec h
  refine eok_of_run ⟨_, _, _, _, _, h, rfl, R_new hC (cap := 0), hC.cells_new hy.cells, ?_⟩
  simp [execOp, hop, Instr.box, newVar, run_new]

theorem range_zero {zero : Array Value} {n len : Nat} (hz : zero.size = n) (hn : n ≠ 0) : ((Array.range (len * n)).map (zero[· % zero.size]!)).toList = (List.replicate len zero.toList).flatten := by
  have hl : ((List.replicate len zero.toList).flatten).length = len * n := by simp [hz]
  apply List.ext_getElem?
  intro i
  rcases Nat.lt_or_ge i (len * n) with hi | hi
  · have hmod : i % n < n := Nat.mod_lt _ (by omega)
    have hdiv : i / n < len := by rw [Nat.div_lt_iff_lt_mul (by omega)]; exact hi
    have hrep : ∀ (len i : Nat), i < len * n → ((List.replicate len zero.toList).flatten)[i]? = zero.toList[i % n]? := by
      intro len
      induction len with
      | zero => intro i h; simp at h
      | succ len ih =>
        intro i h
        rw [List.replicate_succ, List.flatten_cons]
        rcases Nat.lt_or_ge i n with hin | hin
        · rw [List.getElem?_append_left (by simpa [hz] using hin), Nat.mod_eq_of_lt hin]
        · rw [List.getElem?_append_right (by simpa [hz] using hin)]
          have hlz : zero.toList.length = n := by simp [hz]
          rw [hlz, ih (i - n) (by rw [Nat.add_mul] at h; omega), Nat.mod_eq_sub_mod hin]
    rw [hrep len i hi]
    simp [hi, hz, hmod]
  · rw [List.getElem?_eq_none (by simpa using hi), List.getElem?_eq_none (by rw [hl]; exact hi)]

theorem e_bsl (hE : EnvR ρ s.env a.tmps) (hC : Core w0 cx ρ s.H w) {t e : TypeId} {n len : Nat} {ps : Array (Nat × Operand)} {z : List Value} {parts : List (Nat × Nat × X)} (hop : o.op = .buildSlice t len ps) (hu : P.underlying t = some (.slice e))
    (hs : sizeT P e = some n) (hz : zeroT P e = some z) (hn : n ≠ 0) (hzl : z.length = n) (hlen : len ≠ 0) (hp : compParts (fun i => some (i * n, n)) ps.toList = some parts) (hnmax : len * n ≤ 16777216)
    (h : evI P w0 (.bsl e n len ((List.replicate len z).flatten) parts) s K) : EOk P w0 cx o a ρ s K w := by
  simp only [evI] at h
  have h := mapF_spec h
  obtain ⟨h1, v, hv, hzr⟩ := zeroT_spec hz
  have hvs : v.cells.size = n := by rw [← hzl, ← hv]; simp
  have hrz := range_zero (len := len) hvs hn
  rw [hv] at hrz
  obtain ⟨z', cells', hk, hA, hf⟩ := fill_sound hE hp h (cells := (Array.range (len * n)).map (v.cells[· % v.cells.size]!)) (by
    rw [hrz]
    refine zero_R fun u hu => ?_
    obtain ⟨l, hl, hul⟩ := List.mem_flatten.1 hu
    rw [List.eq_of_mem_replicate hl] at hul
    exact h1 u hul)
  have h := pushF_spec hk
  refine eok_of_run ⟨_, _, _, .slice (some ⟨w.heap.size, 0, none⟩) len len, _, h, rfl, ?_, hC.cells_new hA, ?_⟩
  · refine ⟨w.heap.size, ?_, by simp, Nat.le_refl _⟩
    unfold Ren.at
    rw [Nat.zero_add, ← hC.rh.len]
    simp
  · have hne : len * n ≠ 0 := Nat.mul_ne_zero hlen hn
    have hgt : ¬ (len * n > 2 ^ 24) := by simp; omega
    simp only [execOp, hop, Instr.buildSlice, Sem.run_bind, run_underlying hu, Result.andThen_ok, run_sizeT hs, if_neg hgt, if_neg hne, Sem.run_pure, hzr, Array.toList_map, hf, run_new]
end
end Go.Vc
