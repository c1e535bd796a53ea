/- A slice that was written out, taken for one of rows. -/
import Derived.Test.YtknfakehijoogaaDoorPkA
namespace Go.Proofs.YtknfakehijoogaaDoor
open Go Go.Vc
open Go.RowKit (Below)
set_option maxRecDepth 100000

/-- What a cell is told by does not depend on how great blocks are. -/
def CV.light (c : CV) : Prop := ∀ (ρ ρ' : Ren) (v : Value), (∀ b, ρ.at b = ρ'.at b) → c.R ρ v → c.R ρ' v
def Blk.light (k : Blk) : Prop := ∀ (ρ ρ' : Ren) (e : Option Nat × Nat) (w : World), (∀ b, ρ.at b = ρ'.at b) → k.ok ρ e w → k.ok ρ' e w
theorem light_val (x : Value) : CV.light (.val x) := fun _ _ _ _ h => h
theorem light_any : CV.light .any := fun _ _ _ _ h => h
theorem light_sli (b wd o n c : Nat) : CV.light (.sli b wd o n c) := by
  rintro ρ ρ' v ha ⟨g, h1, h2⟩
  exact ⟨g, by rw [← ha]; exact h1, h2⟩
theorem light_all {ρ ρ' : Ren} (ha : ∀ b, ρ.at b = ρ'.at b) {l : List CV} {ys : List Value} (hl : ∀ c ∈ l, CV.light c) (h : All2 (CV.R ρ) l ys) : All2 (CV.R ρ') l ys := by
  induction h with
  | nil => exact .nil
  | cons a r ih => exact .cons (hl _ (List.mem_cons_self ..) ρ ρ' _ ha a) (ih fun c hc => hl c (List.mem_cons_of_mem _ hc))
theorem light_vec {α : Type} {wr : Bool} {T : TypeId} {e : Enc α} {bs : List Nat} {wd : Nat} {xs : List α} (h : ∀ c ∈ flat e bs xs, CV.light c) : Blk.light (.vec wr T e bs wd xs) := by
  rintro ρ ρ' en w ha ⟨h0, h1, h2⟩
  refine ⟨h0, h1, ?_⟩
  rcases h2 with h2 | ⟨g, arr, fz, h2, h3, h4, h5, hc, ⟨sp, h6, h7⟩, h8⟩
  · exact .inl h2
  · refine .inr ⟨g, arr, fz, h2, h3, h4, h5, hc, ⟨sp, light_all ha (fun c hcm => ?_) h6, h7⟩, h8⟩
    rcases List.mem_append.1 hcm with hcm | hcm
    · exact h c hcm
    · rw [h7 c hcm]
      exact light_any
theorem light_bytes {wr : Bool} {T : TypeId} {xs : List Int} : Blk.light (.vec wr T (encI .u8) [] 1 xs) := light_vec fun c hc => by
  obtain ⟨x, _, hx⟩ := List.mem_flatMap.1 hc
  have hx : c ∈ [CV.val (.int .u8 x)] := hx
  rw [List.mem_singleton.1 hx]
  exact light_val _

theorem asVec {P : Program} {w0 : World} {f : FuncId} {args : List A1} {H : List Blk} {T : TypeId} {α : Type} {e : Enc α} {bs : List Nat} {Q : List α → List A1 → Prop} {R1 : AV → List Blk → Prop}
    (hH : ∀ k ∈ H, Blk.light k) (hc : ∀ x, ∀ c ∈ e.f bs x, CV.light c) (hlen : ∀ x, (e.f bs x).length = 1)
    (h : CallsA P w0 f args H fun r H' => R1 r H' ∨ ∃ xs rest, xs ≠ [] ∧ xs.length ≤ 100000 ∧ Q xs rest ∧ (∀ a ∈ rest, ∃ v, a = A1.c (.val v)) ∧ r = .t (.c (.sli H.length 1 0 xs.length xs.length) :: rest) ∧ H' = H ++ [.cells T (flat e bs xs)]) :
    CallsA P w0 f args H fun r H' => R1 r H' ∨ ∃ xs rest, xs ≠ [] ∧ Q xs rest ∧ r = .t (.c (.vec H.length xs.length) :: rest) ∧ H' = H ++ [.vec true T e bs 1 xs] := by
  refine ⟨h.cal, fun ρ w vs hRH hA => (h.out ρ w vs hRH hA).mono fun en w' he => ?_⟩
  obtain ⟨r, H', ρ', v, hR, rfl, hv, hRH', ⟨t, rfl⟩, hfr, hnew⟩ := he
  rcases hR with hR | ⟨xs, rest, hne, hxl, hQ, hrest, rfl, rfl⟩
  · exact ⟨r, H', _, v, .inl hR, rfl, hv, hRH', ⟨t, rfl⟩, hfr, hnew⟩
  have hρl : ρ.length = H.length := hRH.len
  obtain ⟨x, rfl⟩ : ∃ x, t = [x] := by
    have := hRH'.len
    rw [List.length_append, List.length_append, hρl] at this
    match t, this with
    | [x], _ => exact ⟨x, rfl⟩
    | [], h => simp at h
    | _ :: _ :: _, h => simp at h
  have hget : (ρ ++ [x])[H.length]? = some x := by rw [← hρl, List.getElem?_append_right (Nat.le_refl _), Nat.sub_self]; rfl
  have hgetH : (H ++ [Blk.cells T (flat e bs xs)])[H.length]? = some (.cells T (flat e bs xs)) := by rw [List.getElem?_append_right (Nat.le_refl _), Nat.sub_self]; rfl
  have hgetH2 : (H ++ [Blk.vec true T e bs 1 xs])[H.length]? = some (.vec true T e bs 1 xs) := by rw [List.getElem?_append_right (Nat.le_refl _), Nat.sub_self]; rfl
  obtain ⟨g, arr, hg, hheap, hcells⟩ := hRH'.ok _ _ _ hgetH hget
  have hat : ∀ b, Ren.at (ρ ++ [x]) b = Ren.at (ρ ++ [(some g, xs.length)]) b := by
    intro b
    unfold Ren.at
    rcases Nat.lt_trichotomy b ρ.length with c | c | c
    · rw [List.getElem?_append_left c, List.getElem?_append_left c]
    · subst c
      rw [List.getElem?_append_right (Nat.le_refl _), List.getElem?_append_right (Nat.le_refl _), Nat.sub_self]
      exact hg
    · rw [List.getElem?_eq_none (by rw [List.length_append, List.length_singleton]; omega), List.getElem?_eq_none (by rw [List.length_append, List.length_singleton]; omega)]
  have hfl : ∀ c ∈ flat e bs xs, CV.light c := by
    intro c hcm
    obtain ⟨y, _, hy⟩ := List.mem_flatMap.1 hcm
    exact hc y c hy
  have hsize : arr.size = xs.length := by
    have h1 := hcells.length
    rw [flat_length hlen, Nat.mul_one, Array.length_toList] at h1
    exact h1.symm
  have hlive : ∀ (b : Nat) (k : Blk), (H ++ [Blk.vec true T e bs 1 xs])[b]? = some k → k.live = true → ∃ k', (H ++ [Blk.cells T (flat e bs xs)])[b]? = some k' ∧ k'.live = true := by
    intro b k hk hl
    rcases Nat.lt_or_ge b H.length with c | c
    · rw [List.getElem?_append_left c] at hk ⊢
      exact ⟨k, hk, hl⟩
    · have hb : b < (H ++ [Blk.vec true T e bs 1 xs]).length := (List.getElem?_eq_some_iff.1 hk).1
      rw [List.length_append, List.length_singleton] at hb
      obtain rfl : b = H.length := by omega
      exact ⟨_, hgetH, rfl⟩
  have himg : ∀ g', image (ρ ++ [(some g, xs.length)]) (H ++ [Blk.vec true T e bs 1 xs]) g' → image (ρ ++ [x]) (H ++ [Blk.cells T (flat e bs xs)]) g' := by
    rintro g' ⟨b, k, hk, hl, hb⟩
    obtain ⟨k', hk', hl'⟩ := hlive b k hk hl
    exact ⟨b, k', hk', hl', by rw [hat]; exact hb⟩
  refine ⟨_, H ++ [.vec true T e bs 1 xs], ρ ++ [(some g, xs.length)], v, .inr ⟨xs, rest, hne, hQ, rfl, rfl⟩, rfl, ?_, ⟨by rw [List.length_append, List.length_append, hρl]; rfl, ?_, ?_, ?_, hRH'.base⟩, ⟨_, rfl⟩, hfr, fun g' hg' => hnew g' (himg g' hg')⟩
  · obtain ⟨ys, rfl, hys⟩ := hv
    refine ⟨ys, rfl, ?_⟩
    generalize ys.toList = zs at hys
    cases hys with
    | cons a1 r1 =>
      refine .cons ?_ ?_
      · obtain ⟨g', h1, h2, h3⟩ := a1
        have hgg : g' = g := by
          unfold Ren.at at h1
          rw [hget] at h1
          exact Option.some.inj (h1.symm.trans hg)
        subst hgg
        refine ⟨(some g', xs.length), by rw [← hρl, List.getElem?_append_right (Nat.le_refl _), Nat.sub_self]; rfl, .inl ⟨g', rfl, ?_, Nat.le_refl _⟩⟩
        rw [h2, Nat.zero_mul]
      · clear hcells hgetH hgetH2 hQ
        induction r1 with
        | nil => exact .nil
        | cons a r ih =>
          obtain ⟨u, rfl⟩ := hrest _ (List.mem_cons_self ..)
          refine .cons a (ih ?_)
          intro b hb
          exact hrest b (List.mem_cons_of_mem _ hb)
  · intro b k en hk he
    rcases Nat.lt_or_ge b H.length with c | c
    · rw [List.getElem?_append_left c] at hk
      rw [List.getElem?_append_left (by omega)] at he
      exact hH k (List.mem_of_getElem? hk) _ _ _ _ hat (hRH'.ok b k en (by rw [List.getElem?_append_left c]; exact hk) (by rw [List.getElem?_append_left (by omega)]; exact he))
    · have hb : b < (H ++ [Blk.vec true T e bs 1 xs]).length := (List.getElem?_eq_some_iff.1 hk).1
      rw [List.length_append, List.length_singleton] at hb
      obtain rfl : b = H.length := by omega
      rw [hgetH2] at hk
      cases hk
      rw [← hρl, List.getElem?_append_right (Nat.le_refl _), Nat.sub_self] at he
      cases he
      refine ⟨by omega, hlen, .inr ⟨g, arr, (0, 0), rfl, hheap, by rw [hsize]; omega, Nat.le_refl _, by show xs.length ≤ _; omega, ⟨[], ?_, fun x hx => by cases hx⟩, fun _ => rfl⟩⟩
      rw [List.append_nil]
      exact light_all hat hfl hcells
  · intro b b' k k' g' hk hk' hl hl' hb hb'
    obtain ⟨q, hq, hql⟩ := hlive b k hk hl
    obtain ⟨q', hq', hql'⟩ := hlive b' k' hk' hl'
    exact hRH'.inj b b' q q' g' hq hq' hql hql' (by rw [hat]; exact hb) (by rw [hat]; exact hb')
  · intro g' hg'
    exact hRH'.lo g' (himg g' hg')
end Go.Proofs.YtknfakehijoogaaDoor
