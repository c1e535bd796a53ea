/- Appends, makes, slices, calls. -/
import Derived.Test.YtkomikpfnogjcaaVcJ
namespace Go.Vc
open Go.RowKit (Below)
section
variable {P : Program} {w0 : World} {cx : Cx} {ρ : Ren} {s : S} {K : AV → S → Prop} {a : Act} {o : Oper} {w : World}

theorem cell_heap {w' : World} (h : w'.heap = w.heap) (p : Addr) : w'.cell? p = w.cell? p := by simp [World.cell?, h]

/-- A run of a block's cells, as appends and copies read them. -/
theorem cells_run {g off : Nat} {arr : Array Value} {T : TypeId} {fz : Nat × Nat} {cs : List CV} {n : Nat} (hg : w.heap[g]? = some (.cells arr T fz)) (hA : All2 (CV.R ρ) cs arr.toList) (hle : off + n ≤ cs.length) :
    ∃ vs, All2 (CV.R ρ) ((cs.drop off).take n) vs ∧ vs.length = n ∧ ∀ w' : World, w'.heap = w.heap → ∀ j u, vs[j]? = some u → w'.cell? ((⟨g, off, none⟩ : Addr).add j) = some u := by
  have hA2 := (hA.drop_ off).take_ n
  refine ⟨_, hA2, ?_, fun w' hw j u hu => ?_⟩
  · rw [← hA2.length, List.length_take, List.length_drop]; omega
  · rw [cell_heap hw, addr_add, cell_at hg]
    rw [List.getElem?_take] at hu
    split at hu
    · rw [List.getElem?_drop] at hu
      simpa using hu
    · cases hu

theorem src_sound (hC : RH w0 ρ s.H w) {α : Type} {e : Enc α} {bs : List Nat} {wd : Nat} (hlen : ∀ x, (e.f bs x).length = wd) {y : CV} {ys : List α} {v : Value} (hR : y.R ρ v) (h : src w0 s.H e bs wd y ys) :
    ∃ news, All2 (CV.R ρ) (flat e bs ys) news ∧ (∀ w', (Builtin.lenOf v).run P w' = .ok ys.length w') ∧ (∀ w', w'.heap = w.heap → (Builtin.firstCells wd ys.length v).run P w' = .ok news.toArray w') := by
  have hfl := flat_length hlen ys
  unfold src at h
  split at h
  · obtain ⟨rfl, _⟩ := hR
    subst h
    exact ⟨[], .nil, fun w' => rfl, fun w' _ => rfl⟩
  · rename_i ad n c
    obtain ⟨rfl, _⟩ := hR
    obtain ⟨hn, h⟩ := h
    have hx : ∀ (l : List CV) (k : Nat), (∀ i x, l[i]? = some x → ∃ v, x = CV.val v ∧ v.oneCell' = true ∧ w0.cell? (ad.add (k + i)) = some v) →
        ∃ news, All2 (CV.R ρ) l news ∧ ∀ j u, news[j]? = some u → w0.cell? (ad.add (k + j)) = some u := by
      intro l
      induction l with
      | nil => intro k _; exact ⟨[], .nil, by simp⟩
      | cons x r ih =>
        intro k hk
        obtain ⟨v, rfl, h1, h2⟩ := hk 0 x rfl
        obtain ⟨news, hA, hc⟩ := ih (k + 1) fun i x hi => by
          obtain ⟨v, e1, e2, e3⟩ := hk (i + 1) x (by simpa using hi)
          exact ⟨v, e1, e2, by rw [show k + 1 + i = k + (i + 1) from by omega]; exact e3⟩
        refine ⟨v :: news, .cons ⟨rfl, h1⟩ hA, fun j u hu => ?_⟩
        cases j with
        | zero => simp at hu; subst hu; exact h2
        | succ j => rw [show k + (j + 1) = k + 1 + j from by omega]; exact hc j u (by simpa using hu)
    obtain ⟨news, hA, hc⟩ := hx (flat e bs ys) 0 (by simpa using h)
    refine ⟨news, hA, fun w' => by simp [Builtin.lenOf, hn], fun w' hw => run_firstCells_some w' _ _ _ _ _ _ (by rw [← hA.length, hfl]) fun j u hu => ?_⟩
    have h0 := hc j u hu
    rw [Nat.zero_add] at h0
    rw [cell_heap hw, hC.base.cell (World.block_lt_of_cell? w0 _ h0)]
    exact h0
  · rename_i b
    obtain ⟨rfl, _⟩ := hR
    obtain ⟨hn, hw1, h⟩ := h
    refine ⟨b.data.toList.map fun x => .int .u8 x.toNat, ?_, fun w' => by simp [Builtin.lenOf, hn], fun w' _ => ?_⟩
    · rw [h]
      generalize b.data.toList = l
      induction l with
      | nil => exact .nil
      | cons x r ih => exact .cons ⟨rfl, rfl⟩ ih
    · have hb : (b.extract 0 b.size) = b := ByteArray.extract_zero_size
      simp only [Builtin.firstCells, hn, hb, Sem.run_pure]
      congr 1
      apply Array.toList_inj.1
      simp
  · rename_i b n
    split at h
    · rename_i β wr T e' bs' wd' zs hb
      obtain ⟨rfl, hnz, hn, h⟩ := h
      obtain ⟨e1, hρ, h0, hlen', h2⟩ := hC.get hb
      obtain ⟨e1', he1, hR⟩ := hR
      rw [hρ] at he1
      cases he1
      rcases h2 with ⟨h2, hz, _⟩ | ⟨g', arr, fz, h2, h3, h4, h5, hc, ⟨sp, h6, h7⟩, h8⟩
      · have hn0 : n = 0 := by subst hz; simpa using hnz
        subst hn0
        have hy0 : ys = [] := List.eq_nil_of_length_eq_zero hn
        subst hy0
        rcases hR with ⟨g, hg, _, _⟩ | ⟨_, _, rfl⟩
        · rw [h2] at hg; cases hg
        · exact ⟨[], .nil, fun w' => rfl, fun w' _ => rfl⟩
      · rcases hR with ⟨g, hg, rfl, _⟩ | ⟨hg, _⟩
        · rw [h2] at hg
          cases hg
          have hle : 0 + n * wd' ≤ (flat e' bs' zs ++ sp).length := by
            rw [List.length_append, flat_length hlen']
            have := Nat.mul_le_mul_right wd' hnz
            omega
          obtain ⟨vs, hA, hl, hc'⟩ := cells_run (off := 0) h3 h6 hle
          have hseg : ((flat e' bs' zs ++ sp).drop 0).take (n * wd') = flat e bs ys := by
            rw [List.drop_zero, List.take_append_of_le_length (by rw [flat_length hlen']; exact Nat.mul_le_mul_right _ hnz), flat_take hlen' n zs hnz, h]
          rw [hseg] at hA
          exact ⟨vs, hA, fun w' => by simp [Builtin.lenOf, hn], fun w' hw => run_firstCells_some w' _ _ _ _ _ _ (by rw [hl, hn]) (hc' w' hw)⟩
        · rw [h2] at hg; cases hg
    · exact h.elim
  · rename_i b wd1 o' n c
    obtain ⟨g, hg, rfl, hncap⟩ := hR
    split at h
    · rename_i T cs hb
      obtain ⟨rfl, hn, h⟩ := h
      obtain ⟨h1, h⟩ := dropF_spec h
      obtain ⟨h2, h⟩ := takeF_spec h
      obtain ⟨e1, hρ, g', arr, k1, k2, k3⟩ := hC.get hb
      rw [at_of_get hρ, k1] at hg
      cases hg
      obtain ⟨vs, hA, hl, hc'⟩ := cells_run (off := o' * wd1) (n := n * wd1) k2 k3 (by simp at h2; omega)
      rw [← h] at hA
      exact ⟨vs, hA, fun w' => by simp [Builtin.lenOf, hn], fun w' hw => run_firstCells_some w' _ _ _ _ _ _ (by rw [hl, hn]) (hc' w' hw)⟩
    · rename_i β wr T e' bs' wd' zs hb
      obtain ⟨rfl, rfl, hnz, hn, h⟩ := h
      obtain ⟨e1, hρ, h0, hlen', h2⟩ := hC.get hb
      rcases h2 with ⟨h2, hz, _⟩ | ⟨g', arr, fz, h2, h3, h4, h5, hc, ⟨sp, h6, h7⟩, h8⟩
      · rw [at_of_get hρ, h2] at hg; cases hg
      · rw [at_of_get hρ, h2] at hg
        cases hg
        have hm := Nat.mul_le_mul_right wd' hnz
        rw [Nat.add_mul] at hm
        have hle : o' * wd' + n * wd' ≤ (flat e' bs' zs ++ sp).length := by
          rw [List.length_append, flat_length hlen']
          omega
        obtain ⟨vs, hA, hl, hc'⟩ := cells_run (off := o' * wd') h3 h6 hle
        have hseg : ((flat e' bs' zs ++ sp).drop (o' * wd')).take (n * wd') = flat e bs ys := by
          have e2 : (flat e' bs' (zs.drop o')).length = (zs.length - o') * wd' := by rw [flat_length hlen', List.length_drop]
          have e3 : n ≤ (zs.drop o').length := by rw [List.length_drop]; omega
          rw [List.drop_append_of_le_length (by rw [flat_length hlen']; omega), flat_drop hlen' o' zs (by omega), List.take_append_of_le_length (by rw [flat_length hlen']; exact Nat.mul_le_mul_right _ e3), flat_take hlen' n _ e3, h]
        rw [hseg] at hA
        exact ⟨vs, hA, fun w' => by simp [Builtin.lenOf, hn], fun w' hw => run_firstCells_some w' _ _ _ _ _ _ (by rw [hl, hn]) (hc' w' hw)⟩
    · exact h.elim
  · exact h.elim

/-- append, whatever it takes from. -/
theorem run_append_gen {t u ty e : TypeId} {du : TypeDesc} {i : TypeInfo} {z : Value} (ht : P.underlying t = some (.slice e)) (hu : P.underlying u = some du) (hdu : srcT du = true) (hi : P.info? e = some i) (hz : i.zero = some z) (hzs : z.cells.size = i.size)
    {v x : Value} {n m : Nat} {xs news : List Value} (hown : w.ownsRow 0 e i.size v n xs) (hL : ∀ w', (Builtin.lenOf x).run P w' = .ok m w') (hF : ∀ w', w'.heap = w.heap → (Builtin.firstCells i.size m x).run P w' = .ok news.toArray w')
    (hl : news.length = m * i.size) (h1 : ∀ u ∈ news, u.oneCell' = true) (h63 : n + m ≤ maxLen) (hbytes : (n + m) * i.bytes ≤ 140737488355328)
    (hz1 : ∀ u ∈ z.cells.toList, u.oneCell' = true) (hx1 : ∀ u ∈ xs, u.oneCell' = true) (hold : ∀ g cur, v.ownBlock = some g → w.heap[g]? = some (.cells cur e (0, 0)) → ∀ u ∈ cur.toList, u.oneCell' = true) :
    ∃ v' w', (Builtin.append_ #[t, u] ty #[v, x]).run P w = .ok v' w' ∧ w'.ownsRow 0 e i.size v' (n + m) (xs ++ news) ∧ w.grownBy w' v.ownBlock ∧ (v'.ownBlock = v.ownBlock ∨ v'.ownBlock = some w.heap.size) ∧
      ∀ g cur fz, v'.ownBlock = some g → w'.heap[g]? = some (.cells cur e fz) → ∀ u ∈ cur.toList, u.oneCell' = true := by
  have hsmall : n + m ≤ 9223372036854775807 := by simp only [maxLen] at h63; omega
  have hlen : (xs ++ news).length = (n + m) * i.size := by rw [List.length_append, hown.1, hl, Nat.add_mul]
  have hd2 : (∃ e2, du = .slice e2) ∨ du = .string := by cases du <;> first | exact .inl ⟨_, rfl⟩ | exact .inr rfl | cases hdu
  have grown : ∀ (old : Nat), old < n + m → ∀ (row : Option Nat),
      (w.drew.alloc (.cells (xs.toArray ++ news.toArray ++ Builtin.zeroCells z.cells (grownCap w (n + m) old e - (n + m))) e)).ownsRow 0 e i.size
        (.slice (some ⟨w.heap.size, 0, none⟩) (n + m) (grownCap w (n + m) old e)) (n + m) (xs ++ news) ∧
      w.grownBy (w.drew.alloc (.cells (xs.toArray ++ news.toArray ++ Builtin.zeroCells z.cells (grownCap w (n + m) old e - (n + m))) e)) row := by
    intro old ho row
    have hge := grownCap_ge w (n + m) old e
    have hcm : grownCap w (n + m) old e ≤ maxLen := grownCap_le_maxLen w (n + m) old e h63
    refine ⟨⟨hlen, .inr ⟨w.heap.size, _, _, rfl, Nat.zero_le _, heap_alloc_new w.drew _, hge, hcm, ?_, ?_⟩⟩, ⟨rfl, rfl, rfl, by simp, fun k hk _ => heap_alloc_old w.drew _ hk⟩⟩
    · simp only [Array.size_append, List.size_toArray, size_zeroCells, hzs, hown.1, hl, ← Nat.add_mul]
      congr 1
      omega
    · simp only [Array.toList_append, List.append_assoc]
      rw [← List.append_assoc, ← hlen]
      exact List.take_left
  have hzc : ∀ k, ∀ u ∈ (Builtin.zeroCells z.cells k).toList, u.oneCell' = true := by
    intro k u hu
    simp only [Builtin.zeroCells, Array.toList_map, List.mem_map, Array.toList_range, List.mem_range] at hu
    obtain ⟨j, hj, rfl⟩ := hu
    have hz0 : 0 < z.cells.size := by
      rcases Nat.eq_zero_or_pos z.cells.size with h0 | h0
      · rw [h0] at hj; omega
      · exact h0
    have hm := Nat.mod_lt j hz0
    rw [getElem!_pos z.cells _ hm]
    exact hz1 _ (by simp)
  have hgone : ∀ old g cur fz, Value.ownBlock (.slice (some ⟨w.heap.size, 0, none⟩) (n + m) (grownCap w (n + m) old e)) = some g →
      (w.drew.alloc (.cells (xs.toArray ++ news.toArray ++ Builtin.zeroCells z.cells (grownCap w (n + m) old e - (n + m))) e)).heap[g]? = some (.cells cur e fz) → ∀ u ∈ cur.toList, u.oneCell' = true := by
    intro old g cur fz hg hh u hu
    simp only [Value.ownBlock, Option.some.injEq] at hg
    subst hg
    have hh' := heap_alloc_new w.drew (.cells (xs.toArray ++ news.toArray ++ Builtin.zeroCells z.cells (grownCap w (n + m) old e - (n + m))) e)
    have hsz' : w.drew.heap.size = w.heap.size := rfl
    rw [hsz'] at hh'
    rw [hh'] at hh
    simp only [Option.some.injEq, Obj.cells.injEq] at hh
    obtain ⟨rfl, _, _⟩ := hh
    simp only [Array.toList_append, List.mem_append] at hu
    rcases hu with (hu | hu) | hu
    · exact hx1 u hu
    · exact h1 u hu
    · exact hzc _ u hu
  -- what the growing arm comes to
  have grow : ∀ (base : Option Addr) (cap : Nat), v = .slice base n cap → cap < n + m → (∀ w', w'.heap = w.heap → (Builtin.firstCells i.size n v).run P w' = .ok xs.toArray w') →
      (Builtin.append_ #[t, u] ty #[v, x]).run P w = .ok (.slice (some ⟨w.heap.size, 0, none⟩) (n + m) (grownCap w (n + m) cap e)) (w.drew.alloc (.cells (xs.toArray ++ news.toArray ++ Builtin.zeroCells z.cells (grownCap w (n + m) cap e - (n + m))) e)) := by
    intro base cap hv hcap hfo
    have hn : ¬ (n + m ≤ cap) := by omega
    have h63' : ¬ (9223372036854775807 < ((n : Int) + (m : Int))) := by omega
    have hfit := growslice_fits hcap hbytes
    have h48' : ¬ (281474976710656 < Builtin.nextslicecap (n + m) cap * i.bytes) := by omega
    have hF' := hF w.drew rfl
    have hfo' := hfo w.drew rfl
    subst hv
    rcases hd2 with ⟨e2, rfl⟩ | rfl
    · simp [Builtin.append_, run_underlying ht, run_underlying hu, sizeOf, typeInfo, zeroValue, hi, hz, hL, hn, h63', h48', Question.forced, hF', hfo', newRow, grownCap]
      try (congr 2; apply Array.ext'; simp [List.append_assoc])
    · simp [Builtin.append_, run_underlying ht, run_underlying hu, sizeOf, typeInfo, zeroValue, hi, hz, hL, hn, h63', h48', Question.forced, hF', hfo', newRow, grownCap]
      try (congr 2; apply Array.ext'; simp [List.append_assoc])
  rcases hown.2 with ⟨rfl, rfl⟩ | ⟨g, cap, cur, rfl, hbg, hg, hnc, hcm, hcs, htake⟩
  · have hx : xs = [] := List.eq_nil_of_length_eq_zero (by simpa using hown.1)
    subst hx
    by_cases hm : m = 0
    · subst hm
      have hn : news = [] := List.eq_nil_of_length_eq_zero (by simpa using hl)
      subst hn
      have hF' := hF w rfl
      refine ⟨.slice none 0 0, w, ?_, World.ownsRow_nil w 0 e i.size, ⟨rfl, rfl, rfl, Nat.le_refl _, fun _ _ _ => rfl⟩, Or.inl rfl, fun g cur fz hg => by simp [Value.ownBlock] at hg⟩
      rcases hd2 with ⟨e2, rfl⟩ | rfl <;> simp [Builtin.append_, run_underlying ht, run_underlying hu, sizeOf, typeInfo, hi, hL, hF']
    · have hr := grow none 0 rfl (by omega) (fun w' _ => by simp [Builtin.firstCells])
      have hgr := grown 0 (by omega) (Value.ownBlock (.slice none 0 0))
      exact ⟨_, _, hr, hgr.1, hgr.2, Or.inr rfl, hgone 0⟩
  · by_cases hroom : n + m ≤ cap
    · have hfit : n * i.size + news.length ≤ cur.size := by rw [hl, hcs, ← Nat.add_mul]; exact Nat.mul_le_mul_right _ hroom
      have hst := run_storeCells_at P g (n * i.size) e news 0 cur w hg (by simpa using hfit) h1
      simp only [Nat.add_zero] at hst
      have hF' := hF w rfl
      refine ⟨.slice (some ⟨g, 0, none⟩) (n + m) cap, w.setRow g (cur.toList.take (n * i.size) ++ news ++ cur.toList.drop (n * i.size + news.length)).toArray, ?_, ⟨hlen, .inr ⟨g, cap, _, rfl, hbg, setRow_heap w g cur _ e _ hg, hroom, hcm, ?_, ?_⟩⟩, ⟨rfl, rfl, rfl, by simp, fun k _ hk => setRow_other w g k _ (fun e => hk (by simp [Value.ownBlock, e]))⟩, Or.inl rfl, ?_⟩
      · rcases hd2 with ⟨e2, rfl⟩ | rfl <;> simp [Builtin.append_, run_underlying ht, run_underlying hu, sizeOf, typeInfo, hi, hL, hroom, hF', Addr.add_lit, hst]
      · simp only [List.size_toArray, List.length_append, List.length_take, List.length_drop, Array.length_toList]
        omega
      · rw [htake, ← hlen]
        exact List.take_left
      · intro g' cur' fz hg' hh u hu
        simp only [Value.ownBlock, Option.some.injEq] at hg'
        subst hg'
        rw [setRow_heap w g cur _ e _ hg] at hh
        simp only [Option.some.injEq, Obj.cells.injEq] at hh
        obtain ⟨rfl, _, _⟩ := hh
        have ho := hold g cur rfl hg
        simp only [List.mem_append] at hu
        rcases hu with (hu | hu) | hu
        · exact ho u (List.mem_of_mem_take hu)
        · exact h1 u hu
        · exact ho u (List.mem_of_mem_drop hu)
    · have holds : ∀ j u, xs[j]? = some u → w.cell? ((⟨g, 0, none⟩ : Addr).add j) = some u := hown.cells (g := g) rfl
      have hr := grow (some ⟨g, 0, none⟩) cap rfl (by omega) (fun w' hw => run_firstCells_some w' _ _ _ _ _ _ hown.1 fun j u hu => by rw [cell_heap hw]; exact holds j u hu)
      have hgr := grown cap (by omega) (Value.ownBlock (.slice (some ⟨g, 0, none⟩) n cap))
      exact ⟨_, _, hr, hgr.1, hgr.2, Or.inr rfl, hgone cap⟩
end
end Go.Vc
