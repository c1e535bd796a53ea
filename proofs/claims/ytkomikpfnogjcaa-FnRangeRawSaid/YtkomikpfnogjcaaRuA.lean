/- The reference writes a script that lies in a block of the caller's own. -/
import Derived.Test.YtkomikpfnogjcaaRsI
namespace Go.Proofs.Ytkomikpfnogjcaa
open Go Go.Vc
open Go.RowKit (Below)
set_option maxRecDepth 100000
set_option maxHeartbeats 4000000

theorem all2_get {ρ : Ren} {l : List CV} {ys : List Value} (h : All2 (CV.R ρ) l ys) : ∀ {k : Nat} {u : Value}, l[k]? = some (.val u) → ys[k]? = some u ∧ u.oneCell' = true := by
  induction h with
  | nil => intro k u hk; cases k <;> cases hk
  | cons a r ih =>
    intro k u hk
    cases k with
    | zero =>
      cases hk
      obtain ⟨rfl, h⟩ := a
      exact ⟨rfl, h⟩
    | succ k => exact ih hk
theorem all2_any {ρ ρ' : Ren} {l : List CV} {ys : List Value} (h : All2 (CV.R ρ) l ys) (hl : ∀ c ∈ l, (∃ u, c = .val u) ∨ c = .any) : All2 (CV.R ρ') l ys := by
  induction h with
  | nil => exact .nil
  | cons a r ih =>
    refine .cons ?_ (ih fun c hc => hl c (List.mem_cons_of_mem _ hc))
    rcases hl _ (List.mem_cons_self ..) with ⟨u, rfl⟩ | rfl
    · exact a
    · exact a
theorem flat_op : ∀ {l : List OpV} {i : Nat} {o : OpV}, l[i]? = some o → ∀ {j : Nat} {c : CV}, j < 6 → o.cells[j]? = some c → (flat encOp [] l)[i * 6 + j]? = some c
  | [], i, o, h, _, _, _, _ => by cases i <;> cases h
  | x :: r, 0, o, h, j, c, hj, hc => by
    cases h
    show (x.cells ++ flat encOp [] r)[0 * 6 + j]? = _
    rw [Nat.zero_mul, Nat.zero_add, List.getElem?_append_left (by show j < 6; exact hj)]
    exact hc
  | x :: r, i + 1, o, h, j, c, hj, hc => by
    show (x.cells ++ flat encOp [] r)[(i + 1) * 6 + j]? = _
    have h6 : x.cells.length = 6 := rfl
    rw [List.getElem?_append_right (by rw [h6]; omega), h6, show (i + 1) * 6 + j - 6 = i * 6 + j by omega]
    exact flat_op (l := r) h hj hc
theorem add_none (g o k : Nat) : (⟨g, o, none⟩ : Addr).add k = ⟨g, o + k, none⟩ := by
  unfold Addr.add
  split
  · rename_i h
    subst h
    rfl
  · rfl
theorem cell_lt {w : World} {a : Addr} {v : Value} (h : w.cell? a = some v) : a.block < w.heap.size := by
  unfold World.cell? at h
  split at h
  · rename_i c _ _ hc
    exact (Array.getElem?_eq_some_iff.1 hc).1
  · cases h
theorem cell_keep {w0 w : World} (h : Below w0.heap.size w0 w) {a : Addr} {v : Value} (hc : w0.cell? a = some v) : w.cell? a = some v := by
  rw [h.cell (cell_lt hc)]
  exact hc
theorem fits_keep {w0 w : World} (h : Below w0.heap.size w0 w) {o : OpV} (ho : o.fits w0) : o.fits w := by
  refine ⟨ho.act1, ho.act2, ho.a32, ho.b32, ho.c32, ho.v1, ho.v2, ?_⟩
  rcases ho.tab with h1 | ⟨ta, c, h1, h2, h3, h4⟩
  · exact .inl h1
  · exact .inr ⟨ta, c, h1, h2, h3, fun i x hx => ⟨(h4 i x hx).1, cell_keep h (h4 i x hx).2⟩⟩
theorem wr_keep {w0 w : World} (h : Below w0.heap.size w0 w) {o : OpV} (ho : o.wr w0) : o.wr w := by
  refine ⟨ho.a32, ho.b32, ho.c32, ?_⟩
  rcases ho.kind with k | k | ⟨k, total, rest, ta, c, hr, ht1, ht2, hl, hx, hal, hlt, htab, hcell⟩ | k | k | k
  · exact .inl k
  · exact .inr (.inl k)
  · exact .inr (.inr (.inl ⟨k, total, rest, ta, c, hr, ht1, ht2, hl, hx, hal, hlt, htab, fun i x hx => ⟨(hcell i x hx).1, cell_keep h (hcell i x hx).2⟩⟩))
  · exact .inr (.inr (.inr (.inl k)))
  · exact .inr (.inr (.inr (.inr (.inl k))))
  · exact .inr (.inr (.inr (.inr (.inr k))))

theorem seenB_any {ρ ρ' : Ren} {e : Option Nat × Nat} {w : World} {ss : List SeenV} (h : Blk.ok ρ e w (seenB ss)) : Blk.ok ρ' e w (seenB ss) := by
  obtain ⟨h0, h1, h2⟩ := h
  refine ⟨h0, h1, ?_⟩
  rcases h2 with h2 | ⟨g, arr, fz, h2, h3, h4, h5, hc, ⟨sp, h6, h7⟩, h8⟩
  · exact .inl h2
  · refine .inr ⟨g, arr, fz, h2, h3, h4, h5, hc, ⟨sp, all2_any h6 fun c hcm => ?_, h7⟩, h8⟩
    rcases List.mem_append.1 hcm with hcm | hcm
    · left
      obtain ⟨s, _, hs⟩ := List.mem_flatMap.1 hcm
      have hs : c ∈ s.cells := hs
      unfold SeenV.cells at hs
      simp only [List.mem_cons, List.not_mem_nil, or_false] at hs
      rcases hs with rfl | rfl | rfl | rfl | rfl | rfl <;> exact ⟨_, rfl⟩
    · exact .inr (h7 c hcm)

theorem sEncodeB (w0 : World) {l : List OpV} {n : Nat} (hn : l.length = n) (hne : l ≠ []) (hl : l.length ≤ 400) (hf : ∀ o ∈ l, o.fits w0) (hg : ∀ o ∈ l, o.wr w0) :
    CallsA Try.prog w0 19 [.c (.vec 0 n)] [sopB l] fun r H =>
      (r = .t [.c (.val (.string (ByteArray.mk #[]))), .c (.val (.slice none 0 0)), .c (.val (.int .i64 ((2 : Nat) : Int)))] ∧ H = [sopB l]) ∨
      (∃ ss, wInv l l.length ss ∧ r = .t [.c (.val (.string (EncS.init.rafter l).rdone)), .c (.vec 1 n), .c (.val (.int .i64 ((1 : Nat) : Int)))] ∧ H = [sopB l, seenB ss]) := by
  subst hn
  refine ⟨(sEncode0 w0 (v := .slice none 0 0) (.inl ⟨rfl, rfl⟩)).cal, fun ρ w vs hRH hA => ?_⟩
  obtain ⟨x, rfl⟩ : ∃ x, ρ = [x] := by
    have := hRH.len
    match ρ, this with
    | [x], _ => exact ⟨x, rfl⟩
  have hok : Blk.ok [x] x w (sopB l) := hRH.ok 0 _ x rfl rfl
  have hb := hRH.base
  obtain ⟨_, _, hok2⟩ := hok
  rcases hok2 with ⟨_, h0, _⟩ | ⟨g, arr, fz, hx, hheap, hsz, hle, hcap, ⟨sp, hall, hsp⟩, hfz⟩
  · exact absurd h0 hne
  have hlp := List.length_pos_iff.2 hne
  obtain ⟨v, rfl, rfl⟩ : ∃ v, vs = [v] ∧ v = .slice (some ⟨g, 0, none⟩) l.length x.2 := by
    cases hA with
    | cons a r =>
      cases r
      refine ⟨_, rfl, ?_⟩
      obtain ⟨e, he, h⟩ := a
      cases he
      rcases h with ⟨g', hg', hy, _⟩ | ⟨_, h, _⟩
      · rw [hx] at hg'
        cases hg'
        exact hy
      · omega
  have hcell : ∀ k u, (flat encOp [] l)[k]? = some (.val u) → w.cell? (⟨g, k, none⟩) = some u := by
    intro k u hk
    have := (all2_get hall (k := k) (u := u) (by
      rw [List.getElem?_append_left (List.getElem?_eq_some_iff.1 hk).1]
      exact hk)).1
    unfold World.cell?
    rw [hheap]
    simp only [Option.isSome_none, Bool.false_eq_true, if_false]
    rw [← this, Array.getElem?_toList]
  have hv : opsAt w (.slice (some ⟨g, 0, none⟩) l.length x.2) l := by
    refine .inr ⟨_, _, rfl, hle, hcap, fun i o ho => ?_⟩
    have hfo := hf o (List.mem_of_getElem? ho)
    refine ⟨?_, fits_keep hb hfo⟩
    have h0 := hcell _ _ (flat_op ho (j := 0) (by omega) rfl)
    have h1 := hcell _ _ (flat_op ho (j := 1) (by omega) rfl)
    have h2 := hcell _ _ (flat_op ho (j := 2) (by omega) rfl)
    have h3 := hcell _ _ (flat_op ho (j := 3) (by omega) rfl)
    have h4 := hcell _ _ (flat_op ho (j := 4) (by omega) rfl)
    have h5 := hcell _ _ (flat_op ho (j := 5) (by omega) rfl)
    unfold OpV.lies
    simp only [add_none, Nat.zero_add]
    exact ⟨h0, h1, h2, h3, h4, h5, hfo.one⟩
  have himg0 : ∀ g, ¬ image [] [] g := fun g ⟨b, k, h, _⟩ => by cases h
  have h := (sEncodeW w hv hl hne fun o ho => wr_keep hb (hg o ho)).out [] w [.slice (some ⟨g, 0, none⟩) l.length x.2] ⟨rfl, (fun b k e h => by cases h), (fun b b' k k' g h => by cases h), (fun g h => absurd h (himg0 g)), Below.refl _ _⟩ (.cons ⟨rfl, rfl⟩ .nil)
  refine h.mono ?_
  rintro e w' ⟨r, H', t, v', hR, rfl, hrv, hRH', _, hfr, hnew⟩
  have hfb : Below w.heap.size w w' := ⟨hfr.1, hfr.2.1, hfr.2.2.1, hfr.2.2.2.1, fun i hi => hfr.2.2.2.2 i hi (himg0 i)⟩
  have hgx : ∀ g', x.1 = some g' → w0.heap.size ≤ g' ∧ g' < w.heap.size := fun g' hg' => hRH.lo g' ⟨0, _, rfl, rfl, hg'⟩
  have hok' : Blk.ok [x] x w' (sopB l) := (hRH.ok 0 _ x rfl rfl).keep fun g' hg' _ => hfb.block g' (hgx g' hg').2
  have hbase : Below w0.heap.size w0 w' := hb.trans (hfb.mono hb.size)
  have hfr' : FrameP w (image [x] [sopB l]) w' := ⟨hfr.1, hfr.2.1, hfr.2.2.1, hfr.2.2.2.1, fun i hi _ => hfr.2.2.2.2 i hi (himg0 i)⟩
  rcases hR with ⟨rfl, rfl⟩ | ⟨ss, hw, rfl, rfl⟩
  · obtain rfl : t = [] := List.length_eq_zero_iff.1 hRH'.len
    refine ⟨_, [sopB l], [x], _, .inl ⟨rfl, rfl⟩, rfl, AV.R.more [x] hrv, ⟨rfl, ?_, ?_, ?_, hbase⟩, ⟨[], rfl⟩, hfr', fun g h => .inl h⟩
    · intro b k e hk he
      match b with
      | 0 =>
        cases hk
        cases he
        exact hok'
      | b + 1 => cases hk
    · exact hRH.inj
    · intro g' hg'
      obtain ⟨b, k, hk, hl', hb'⟩ := hg'
      match b with
      | 0 =>
        have := hgx g' hb'
        have := hfb.size
        omega
      | b + 1 => cases hk
  · obtain ⟨y, rfl⟩ : ∃ y, t = [y] := by
      have := hRH'.len
      match t, this with
      | [y], _ => exact ⟨y, rfl⟩
    have hny : ∀ g', y.1 = some g' → w.heap.size ≤ g' := by
      intro g' hg'
      rcases hnew g' ⟨0, _, rfl, rfl, hg'⟩ with h | h
      · exact absurd h (himg0 g')
      · exact h
    refine ⟨.t [.c (.val (.string (EncS.init.rafter l).rdone)), .c (.vec 1 l.length), .c (.val (.int .i64 ((1 : Nat) : Int)))], [sopB l, seenB ss], [x, y], v', .inr ⟨ss, hw, rfl, rfl⟩, rfl, ?_, ⟨rfl, ?_, ?_, ?_, hbase⟩, ⟨[y], rfl⟩, hfr', ?_⟩
    · obtain ⟨ys, rfl, hys⟩ := hrv
      refine ⟨ys, rfl, ?_⟩
      generalize ys.toList = zs at hys
      cases hys with
      | cons a1 r1 =>
        cases r1 with
        | cons a2 r2 =>
          cases r2 with
          | cons a3 r3 =>
            cases r3
            refine .cons a1 (.cons ?_ (.cons a3 .nil))
            obtain ⟨e, he, h⟩ := a2
            cases he
            exact ⟨_, rfl, h⟩
    · intro b k e hk he
      match b with
      | 0 =>
        cases hk
        cases he
        exact Blk.ok.more [y] hok'
      | 1 =>
        cases hk
        cases he
        exact seenB_any (hRH'.ok 0 _ _ rfl rfl)
      | b + 2 => cases hk
    · intro b b' k k' g' hk hk' _ _ hb1 hb2
      match b, b' with
      | 0, 0 => rfl
      | 1, 1 => rfl
      | 0, 1 =>
        have h1 := (hgx g' hb1).2
        have h2 := hny g' hb2
        omega
      | 1, 0 =>
        have h1 := (hgx g' hb2).2
        have h2 := hny g' hb1
        omega
      | b + 2, _ => cases hk
      | _, b' + 2 => cases hk'
    · intro g' hg'
      obtain ⟨b, k, hk, hl', hb'⟩ := hg'
      match b with
      | 0 =>
        have := hgx g' hb'
        have := hfb.size
        omega
      | 1 =>
        have h1 := hRH'.lo g' ⟨0, _, rfl, rfl, hb'⟩
        have := hb.size
        omega
      | b + 2 => cases hk
    · intro g' hg'
      obtain ⟨b, k, hk, hl', hb'⟩ := hg'
      match b with
      | 0 =>
        cases hk
        exact .inl ⟨0, _, rfl, rfl, hb'⟩
      | 1 => exact .inr (hny g' hb')
      | b + 2 => cases hk
end Go.Proofs.Ytkomikpfnogjcaa
