/- Operations that only read: what is asked of their instructions is enough. -/
import Derived.Test.YtkomikpfnogjcaaVcD
import Derived.WalkKit
namespace Go.Vc
open Go.RowKit (Below)

structure Cx where
  w1 : World
  F : Nat → Prop
  ρe : Ren
  ds : List Deferred
structure Core (w0 : World) (cx : Cx) (ρ : Ren) (H : List Blk) (w : World) : Prop where
  rh : RH w0 ρ H w
  fr : FrameP cx.w1 cx.F w
  own : ∀ g, image ρ H g → cx.F g ∨ cx.w1.heap.size ≤ g
  pre : ∃ t, ρ = cx.ρe ++ t
def EnvR (ρ : Ren) (e : Env) (tmps : Array Value) : Prop := ∀ t x, look e t = some x → ∃ v, tmps[t]? = some v ∧ x.R ρ v
theorem EnvR.more {ρ : Ren} {e : Env} {tmps : Array Value} (t : Ren) (h : EnvR ρ e tmps) : EnvR (ρ ++ t) e tmps := fun k x hx =>
  let ⟨v, h1, h2⟩ := h k x hx
  ⟨v, h1, h2.more t⟩

/-! ### Operands -/
section
variable {ρ : Ren} {e : Env} {a : Act} {o : Operand} {x : X}
theorem get_R (hE : EnvR ρ e a.tmps) (hx : compX o = some x) {y : AV} (h : x.get e = some y) : y.R ρ (a.eval o) := by
  cases o with
  | tmp t =>
    simp only [compX, Option.some.injEq] at hx
    subst hx
    obtain ⟨v, h1, h2⟩ := hE t y h
    simpa [Act.eval, h1] using h2
  | const v =>
    simp only [compX] at hx
    split at hx
    · rename_i hv
      simp only [Option.some.injEq] at hx
      subst hx
      cases v <;> simp only [X.get, Option.some.injEq] at h <;> subst h <;> first | exact rfl | exact ⟨rfl, hv⟩
    · cases hx
  | global g =>
    simp only [compX, Option.some.injEq] at hx
    subst hx
    simp only [X.get, Option.some.injEq] at h
    subst h
    exact ⟨rfl, rfl⟩
  | func f =>
    simp only [compX, Option.some.injEq] at hx
    subst hx
    simp only [X.get, Option.some.injEq] at h
    subst h
    exact ⟨rfl, rfl⟩
theorem getV_R (hE : EnvR ρ e a.tmps) (hx : compX o = some x) {k : AV → Prop} (h : getV e x k) : ∃ y, x.get e = some y ∧ k y ∧ y.R ρ (a.eval o) := by
  unfold getV at h
  split at h
  · rename_i y hy
    exact ⟨y, hy, h, get_R hE hx hy⟩
  · exact h.elim
theorem get1_R (hE : EnvR ρ e a.tmps) (hx : compX o = some x) {k : A1 → Prop} (h : get1 e x k) : ∃ y, k y ∧ y.R ρ (a.eval o) := by
  unfold get1 at h
  split at h
  · rename_i y hy
    exact ⟨y.norm, h, A1.R.norm (get_R hE hx hy)⟩
  · exact h.elim
theorem getC_R (hE : EnvR ρ e a.tmps) (hx : compX o = some x) {k : CV → Prop} (h : getC e x k) : ∃ y, k y ∧ y.R ρ (a.eval o) := by
  unfold getC at h
  split at h
  · rename_i y hy
    exact ⟨y.norm, h, CV.R.norm (get_R hE hx hy)⟩
  · exact h.elim
theorem getC_R' (hE : EnvR ρ e a.tmps) (hx : compX o = some x) {k : CV → Prop} (h : getC e x k) : ∃ y, x.get e = some (.o (.c y)) ∧ k y.norm ∧ y.norm.R ρ (a.eval o) := by
  unfold getC at h
  split at h
  · rename_i y hy
    exact ⟨y, hy, h, CV.R.norm (get_R hE hx hy)⟩
  · exact h.elim
theorem getI_R (hE : EnvR ρ e a.tmps) (hx : compX o = some x) {k : IntKind → Int → Prop} (h : getI e x k) : ∃ d n, k d n ∧ a.eval o = .int d n := by
  unfold getI at h
  split at h
  · rename_i d n hy
    exact ⟨d, n, h, (get_R hE hx hy).1⟩
  · exact h.elim
theorem getB_R (hE : EnvR ρ e a.tmps) (hx : compX o = some x) {k : Bool → Prop} (h : getB e x k) : ∃ b, k b ∧ a.eval o = .bool b := by
  unfold getB at h
  split at h
  · rename_i b hy
    exact ⟨b, h, (get_R hE hx hy).1⟩
  · rename_i b hy
    exact ⟨b, h, get_R hE hx hy⟩
  · exact h.elim
theorem getS_R (hE : EnvR ρ e a.tmps) (hx : compX o = some x) {k : ByteArray → Prop} (h : getS e x k) : ∃ b, k b ∧ a.eval o = .string b := by
  unfold getS at h
  split at h
  · rename_i b hy
    exact ⟨b, h, (get_R hE hx hy).1⟩
  · exact h.elim
theorem getBr_R (hE : EnvR ρ e a.tmps) (hx : compX o = some x) {A B : Prop} (h : getBr e x A B) : ∃ b, a.eval o = .bool b ∧ (b = true → A) ∧ (b = false → B) := by
  unfold getBr at h
  split at h
  · rename_i b hy
    exact ⟨b, (get_R hE hx hy).1, h⟩
  · rename_i hy
    exact ⟨true, get_R hE hx hy, fun _ => h, fun h => absurd h (by simp)⟩
  · rename_i hy
    exact ⟨false, get_R hE hx hy, fun h => absurd h (by simp), fun _ => h⟩
  · exact h.elim
end
theorem get1s_R {ρ : Ren} {e : Env} {a : Act} (hE : EnvR ρ e a.tmps) : ∀ {os : List Operand} {xs : List X} (_ : compXs os = some xs) {k : List A1 → Prop} (_ : get1s e xs k), ∃ l, k l ∧ All2 (A1.R ρ) l (os.map a.eval)
  | [], xs, hx, k, h => by simp only [compXs, Option.some.injEq] at hx; subst hx; exact ⟨[], h, .nil⟩
  | o :: r, xs, hx, k, h => by
    simp only [compXs] at hx
    cases h1 : compX o with
    | none => simp [h1] at hx
    | some y =>
      cases h2 : compXs r with
      | none => simp [h1, h2] at hx
      | some l =>
        simp only [h1, h2, Option.some.injEq] at hx
        subst hx
        simp only [get1s] at h
        obtain ⟨z, hz, hR⟩ := get1_R hE h1 h
        obtain ⟨m, hm, hA⟩ := get1s_R hE h2 hz
        exact ⟨z :: m, hm, .cons hR hA⟩
theorem getCs_R {ρ : Ren} {e : Env} {a : Act} (hE : EnvR ρ e a.tmps) : ∀ {os : List Operand} {xs : List X} (_ : compXs os = some xs) {k : List CV → Prop} (_ : getCs e xs k), ∃ l, k l ∧ All2 (CV.R ρ) l (os.map a.eval)
  | [], xs, hx, k, h => by simp only [compXs, Option.some.injEq] at hx; subst hx; exact ⟨[], h, .nil⟩
  | o :: r, xs, hx, k, h => by
    simp only [compXs] at hx
    cases h1 : compX o with
    | none => simp [h1] at hx
    | some y =>
      cases h2 : compXs r with
      | none => simp [h1, h2] at hx
      | some l =>
        simp only [h1, h2, Option.some.injEq] at hx
        subst hx
        simp only [getCs] at h
        obtain ⟨z, hz, hR⟩ := getC_R hE h1 h
        obtain ⟨m, hm, hA⟩ := getCs_R hE h2 hz
        exact ⟨z :: m, hm, .cons hR hA⟩

/-! ### Lists written out -/
theorem takeF_spec {α : Type} : ∀ {n : Nat} {l : List α} {k : List α → Prop}, takeF n l k → n ≤ l.length ∧ k (l.take n)
  | 0, l, k, h => ⟨Nat.zero_le _, by simpa [takeF] using h⟩
  | n + 1, x :: r, k, h => by
    simp only [takeF] at h
    obtain ⟨h1, h2⟩ := takeF_spec h
    exact ⟨by simpa using h1, by simpa using h2⟩
  | n + 1, [], k, h => h.elim
theorem dropF_spec {α : Type} : ∀ {n : Nat} {l : List α} {k : List α → Prop}, dropF n l k → n ≤ l.length ∧ k (l.drop n)
  | 0, l, k, h => ⟨Nat.zero_le _, by simpa [dropF] using h⟩
  | n + 1, x :: r, k, h => by
    simp only [dropF] at h
    obtain ⟨h1, h2⟩ := dropF_spec h
    exact ⟨by simpa using h1, by simpa using h2⟩
  | n + 1, [], k, h => h.elim
theorem putF_spec {α : Type} : ∀ {n : Nat} {vs l : List α} {k : List α → Prop}, putF n vs l k → n + vs.length ≤ l.length ∧ k (l.take n ++ (vs ++ l.drop (n + vs.length)))
  | 0, [], l, k, h => ⟨by simp, by simpa [putF] using h⟩
  | 0, v :: vs, x :: l, k, h => by
    simp only [putF] at h
    obtain ⟨h1, h2⟩ := putF_spec h
    refine ⟨by simp at h1 ⊢; omega, ?_⟩
    simp only [Nat.zero_add, List.take_zero, List.nil_append, List.length_cons, List.cons_append] at h2 ⊢
    simpa using h2
  | 0, _ :: _, [], k, h => h.elim
  | n + 1, vs, x :: l, k, h => by
    simp only [putF] at h
    obtain ⟨h1, h2⟩ := putF_spec h
    refine ⟨by simp; omega, ?_⟩
    have e : n + 1 + vs.length = (n + vs.length) + 1 := by omega
    rw [e]
    simpa using h2
  | n + 1, vs, [], k, h => by cases vs <;> exact h.elim
theorem setF_spec : ∀ {b : Nat} {x : Blk} {H : List Blk} {k : List Blk → Prop}, setF b x H k → b < H.length ∧ k (H.set b x)
  | 0, x, y :: l, k, h => ⟨by simp, by simpa [setF] using h⟩
  | n + 1, x, y :: l, k, h => by
    simp only [setF] at h
    obtain ⟨h1, h2⟩ := setF_spec h
    exact ⟨by simpa using h1, by simpa using h2⟩
  | 0, x, [], k, h => h.elim
  | n + 1, x, [], k, h => h.elim
theorem pushF_spec : ∀ {x : Blk} {H : List Blk} {n : Nat} {k : Nat → List Blk → Prop}, pushF x H n k → k (n + H.length) (H ++ [x])
  | x, [], n, k, h => by simpa [pushF] using h
  | x, y :: l, n, k, h => by
    simp only [pushF] at h
    have h1 := pushF_spec h
    have e : n + (y :: l).length = n + 1 + l.length := by simp; omega
    rw [e]
    simpa using h1
theorem mapF_spec {f : Value → CV} : ∀ {l : List Value} {k : List CV → Prop}, mapF f l k → k (l.map f)
  | [], _, h => h
  | x :: l, k, h => mapF_spec (l := l) (k := fun r => k (f x :: r)) h

/-! ### What is in memory -/
theorem addr_add (g o i : Nat) : (⟨g, o, none⟩ : Addr).add i = ⟨g, o + i, none⟩ := by
  unfold Addr.add
  split
  · subst_vars; rfl
  · rfl
theorem cell_at {w : World} {g o : Nat} {arr : Array Value} {T : TypeId} {fz : Nat × Nat} (h : w.heap[g]? = some (.cells arr T fz)) : w.cell? ⟨g, o, none⟩ = arr[o]? := by
  simp [World.cell?, h]

theorem RH.get {w0 : World} {ρ : Ren} {H : List Blk} {w : World} (h : RH w0 ρ H w) {b : Nat} {k : Blk} (hb : H[b]? = some k) : ∃ e, ρ[b]? = some e ∧ k.ok ρ e w := by
  have hl : b < ρ.length := by rw [h.len]; exact (List.getElem?_eq_some_iff.1 hb).1
  exact ⟨ρ[b], List.getElem?_eq_getElem hl, h.ok b k _ hb (List.getElem?_eq_getElem hl)⟩
theorem at_of_get {ρ : Ren} {b : Nat} {e : Option Nat × Nat} (h : ρ[b]? = some e) : ρ.at b = e.1 := by simp [Ren.at, h]

theorem flat_length {α : Type} {e : Enc α} {bs : List Nat} {wd : Nat} (h : ∀ x, (e.f bs x).length = wd) : ∀ xs : List α, (flat e bs xs).length = xs.length * wd
  | [] => by simp [flat]
  | x :: xs => by
    have := flat_length h xs
    simp only [flat, List.flatMap_cons, List.length_append, List.length_cons] at this ⊢
    rw [this, h x, Nat.add_mul]
    omega
theorem flat_drop {α : Type} {e : Enc α} {bs : List Nat} {wd : Nat} (h : ∀ x, (e.f bs x).length = wd) : ∀ (i : Nat) (xs : List α), i ≤ xs.length → (flat e bs xs).drop (i * wd) = flat e bs (xs.drop i)
  | 0, xs, _ => by simp
  | i + 1, [], hi => by simp at hi
  | i + 1, x :: xs, hi => by
    have := flat_drop h i xs (by simpa using hi)
    have e1 : (i + 1) * wd = (e.f bs x).length + i * wd := by rw [h x, Nat.add_mul]; omega
    rw [e1]
    simp only [flat, List.flatMap_cons, List.drop_succ_cons] at this ⊢
    rw [List.drop_append, ← this]
    simp [List.drop_eq_nil_of_le]
theorem flat_take {α : Type} {e : Enc α} {bs : List Nat} {wd : Nat} (h : ∀ x, (e.f bs x).length = wd) : ∀ (i : Nat) (xs : List α), i ≤ xs.length → (flat e bs xs).take (i * wd) = flat e bs (xs.take i)
  | 0, xs, _ => by simp [flat]
  | i + 1, [], hi => by simp at hi
  | i + 1, x :: xs, hi => by
    have := flat_take h i xs (by simpa using hi)
    have e1 : (i + 1) * wd = (e.f bs x).length + i * wd := by rw [h x, Nat.add_mul]; omega
    rw [e1]
    simp only [flat, List.flatMap_cons, List.take_succ_cons] at this ⊢
    rw [List.take_append, ← this]
    simp [List.take_of_length_le]
theorem flat_at {α : Type} {e : Enc α} {bs : List Nat} {wd : Nat} (h : ∀ x, (e.f bs x).length = wd) {xs : List α} {i : Nat} {x : α} (hi : xs[i]? = some x) {j : Nat} (hj : j < wd) : (flat e bs xs)[i * wd + j]? = (e.f bs x)[j]? := by
  have hlt : i < xs.length := (List.getElem?_eq_some_iff.1 hi).1
  have h1 : (flat e bs xs)[i * wd + j]? = ((flat e bs xs).drop (i * wd))[j]? := by rw [List.getElem?_drop]
  have h2 : xs.drop i = x :: xs.drop (i + 1) := by
    rw [List.drop_eq_getElem_cons hlt]
    congr 1
    rw [List.getElem?_eq_getElem hlt] at hi
    exact Option.some.inj hi
  rw [h1, flat_drop h i xs (by omega), h2]
  simp only [flat, List.flatMap_cons]
  rw [List.getElem?_append_left (by rw [h x]; exact hj)]

/-- What 'n' cells hold: the address, the cells, what they hold. -/
theorem ldn_sound {w0 : World} {ρ : Ren} {H : List Blk} {w : World} (hC : RH w0 ρ H w) {c : CV} {n : Nat} {k : List CV → Prop} (h : ldn w0 H c n k) {v : Value} (hv : c.R ρ v) :
    ∃ ad cs vs, v = .pointer (some ad) ∧ k cs ∧ All2 (CV.R ρ) cs vs ∧ vs.length = n ∧ (∀ j u, vs[j]? = some u → w.cell? (ad.add j) = some u) ∧ (c.isV = true → ∀ j u, vs[j]? = some u → w0.cell? (ad.add j) = some u) := by
  -- a run of cells of a block that is known cell by cell
  have key : ∀ (g o : Nat) (arr : Array Value) (T : TypeId) (fz : Nat × Nat) (cs : List CV), w.heap[g]? = some (.cells arr T fz) → All2 (CV.R ρ) cs arr.toList →
      (dropF o cs fun l => takeF n l k) → ∃ cs vs, k cs ∧ All2 (CV.R ρ) cs vs ∧ vs.length = n ∧ ∀ j u, vs[j]? = some u → w.cell? ((⟨g, o, none⟩ : Addr).add j) = some u := by
    intro g o arr T fz cs hg hA hd
    obtain ⟨h1, hd⟩ := dropF_spec hd
    obtain ⟨h2, hd⟩ := takeF_spec hd
    have hA2 := (hA.drop_ o).take_ n
    refine ⟨_, _, hd, hA2, ?_, fun j u hu => ?_⟩
    · rw [← hA2.length, List.length_take]; omega
    · rw [addr_add, cell_at hg]
      rw [List.getElem?_take] at hu
      split at hu
      · rw [List.getElem?_drop] at hu
        simpa using hu
      · cases hu
  unfold ldn at h
  split at h
  · rename_i b o
    split at h
    · rename_i T cs hb
      obtain ⟨g, hg, rfl⟩ := hv
      obtain ⟨e, he, g', arr, h1, h2, h3⟩ := hC.get hb
      rw [at_of_get he, h1] at hg
      cases hg
      obtain ⟨cs', vs, h4, h5, h6, h7⟩ := key g o arr T _ cs h2 h3 h
      exact ⟨_, cs', vs, rfl, h4, h5, h6, h7, fun h => by cases h⟩
    · exact h.elim
  · rename_i b wd i j
    split at h
    · rename_i T cs hb
      obtain ⟨g, hg, rfl⟩ := hv
      obtain ⟨e, he, g', arr, h1, h2, h3⟩ := hC.get hb
      rw [at_of_get he, h1] at hg
      cases hg
      obtain ⟨cs', vs, h4, h5, h6, h7⟩ := key g _ arr T _ cs h2 h3 h
      exact ⟨_, cs', vs, rfl, h4, h5, h6, h7, fun h => by cases h⟩
    · rename_i α wr T e bs wd' xs hb
      obtain ⟨g, hg, rfl⟩ := hv
      unfold chk at h
      split at h
      · rename_i hw
        have hw : wd = wd' := by simpa using hw
        subst hw
        obtain ⟨x, hx, h⟩ := h
        obtain ⟨e', he, h0, hlen, h2⟩ := hC.get hb
        rcases h2 with ⟨h2, _⟩ | ⟨g', arr, fz, h2, h3, h4, h5, hc, ⟨sp, h6, h7⟩, h8⟩
        · rw [at_of_get he, h2] at hg; cases hg
        · rw [at_of_get he, h2] at hg
          cases hg
          obtain ⟨h9, h⟩ := dropF_spec h
          obtain ⟨h10, h⟩ := takeF_spec h
          have hlt : i < xs.length := (List.getElem?_eq_some_iff.1 hx).1
          have hseg : ((flat e bs xs ++ sp).drop (i * wd + j)).take n = ((e.f bs x).drop j).take n := by
            have hxd : xs.drop i = x :: xs.drop (i + 1) := by
              rw [List.drop_eq_getElem_cons hlt]
              congr 1
              rw [List.getElem?_eq_getElem hlt] at hx
              exact Option.some.inj hx
            have hfd := flat_drop hlen i xs (by omega)
            rw [hxd] at hfd
            rw [← List.drop_drop, List.drop_append_of_le_length (by rw [flat_length hlen]; exact Nat.mul_le_mul_right _ (by omega)), hfd]
            simp only [flat, List.flatMap_cons, List.append_assoc]
            rw [List.drop_append_of_le_length h9, List.take_append_of_le_length h10]
          have hA2 := (h6.drop_ (i * wd + j)).take_ n
          rw [hseg] at hA2
          refine ⟨_, _, _, rfl, h, hA2, ?_, fun jj u hu => ?_, fun h => by cases h⟩
          · rw [← hA2.length, List.length_take]; omega
          · rw [addr_add, cell_at h3]
            rw [List.getElem?_take] at hu
            split at hu
            · rw [List.getElem?_drop] at hu
              simpa using hu
            · cases hu
      · exact h.elim
    · exact h.elim
  · rename_i a
    obtain ⟨rfl, _⟩ := hv
    have hext : ∀ (n i : Nat) (k : List CV → Prop), extN w0 a i n k → ∃ vs : List Value, k (vs.map .val) ∧ vs.length = n ∧ (∀ u ∈ vs, u.oneCell' = true) ∧ ∀ j u, vs[j]? = some u → w0.cell? (a.add (i + j)) = some u := by
      intro n
      induction n with
      | zero => intro i k h; exact ⟨[], h, rfl, by simp, by simp⟩
      | succ n ih =>
        intro i k h
        obtain ⟨x, hx, ho, h⟩ := h
        obtain ⟨vs, h1, h2, h3, h4⟩ := ih (i + 1) _ h
        refine ⟨x :: vs, h1, by simp [h2], by simpa using ⟨ho, h3⟩, fun j u hu => ?_⟩
        cases j with
        | zero => simp at hu; subst hu; exact hx
        | succ j => rw [show i + (j + 1) = i + 1 + j from by omega]; exact h4 j u (by simpa using hu)
    obtain ⟨vs, h1, h2, h3, h4⟩ := hext n 0 k h
    refine ⟨a, _, vs, rfl, h1, ?_, h2, fun j u hu => ?_, fun _ j u hu => by have := h4 j u hu; rwa [Nat.zero_add] at this⟩
    · clear h1 h2 h4
      induction vs with
      | nil => exact .nil
      | cons x r ih => exact .cons ⟨rfl, h3 x (by simp)⟩ (ih fun u hu => h3 u (by simp [hu]))
    · have := h4 j u hu
      rw [Nat.zero_add] at this
      have hb : (a.add j).block < w0.heap.size := World.block_lt_of_cell? w0 _ this
      rw [hC.base.cell hb]
      exact this
  · exact h.elim

/-! ### Operations whose value hangs on no world -/
section
variable {P : Program} {w0 : World} {ρ : Ren} {s : S} {K : AV → S → Prop} {a : Act} {o : Oper}
/-- In whatever world the operation yields a value that is told by one of which 'K' holds. -/
def QOk (P : Program) (o : Oper) (a : Act) (ρ : Ren) (s : S) (K : AV → S → Prop) : Prop :=
  ∃ x v, K x s ∧ x.R ρ v ∧ ∀ w', (execOp a.eval o).run P w' = .ok (.value v) w'

theorem q_mov (hE : EnvR ρ s.env a.tmps) {x : Operand} {y : X} (hop : o.op = .move x ∨ o.op = .assign x) (hx : compX x = some y) (h : evI P w0 (.mov y) s K) : QOk P o a ρ s K := by
  simp only [evI] at h
  obtain ⟨z, _, hK, hR⟩ := getV_R hE hx h
  exact ⟨z, _, hK, hR, fun w' => by rcases hop with hop | hop <;> simp [execOp, hop]⟩
theorem q_nil (hE : EnvR ρ s.env a.tmps) {x : Operand} {y : X} (hop : o.op = .nilCheck x) (hx : compX x = some y) (h : evI P w0 (.nil y) s K) : QOk P o a ρ s K := by
  simp only [evI] at h
  obtain ⟨z, hK, hR⟩ := getC_R hE hx h
  split at hK
  case h_1 b o' => obtain ⟨g, hg, he⟩ := hR; exact ⟨_, _, hK, ⟨g, hg, rfl⟩, fun w' => by simp [execOp, hop, he]⟩
  case h_2 b wd i j => obtain ⟨g, hg, he⟩ := hR; exact ⟨_, _, hK, ⟨g, hg, rfl⟩, fun w' => by simp [execOp, hop, he]⟩
  case h_3 t b o' => obtain ⟨g, hg, he⟩ := hR; exact ⟨_, _, hK, ⟨g, hg, rfl⟩, fun w' => by simp [execOp, hop, he]⟩
  case h_4 g l => obtain ⟨vs, he, hA⟩ := hR; exact ⟨_, _, hK, ⟨vs, rfl, hA⟩, fun w' => by simp [execOp, hop, he]⟩
  case h_5 ad => obtain ⟨he, h1⟩ := hR; exact ⟨_, _, hK, ⟨rfl, h1⟩, fun w' => by simp [execOp, hop, he]⟩
  case h_6 t v => obtain ⟨he, h1⟩ := hR; exact ⟨_, _, hK, ⟨rfl, h1⟩, fun w' => by simp [execOp, hop, he]⟩
  case h_7 g b c => obtain ⟨he, h1⟩ := hR; exact ⟨_, _, hK, ⟨rfl, h1⟩, fun w' => by simp [execOp, hop, he]⟩
  case h_8 => exact hK.elim
theorem q_ffa (hE : EnvR ρ s.env a.tmps) {t : TypeId} {x : Operand} {f : Nat} {y : X} {fs : Array Field} {fd : Field} {n : Nat} (hop : o.op = .fieldAddr t x f) (hx : compX x = some y)
    (hu : P.underlying t = some (.struct fs)) (hf : fs[f]? = some fd) (hs : sizeT P fd.type = some n) (hn : n ≠ 0) (h : evI P w0 (.ffa y fd.offset) s K) : QOk P o a ρ s K := by
  simp only [evI] at h
  obtain ⟨z, hK, hR⟩ := getC_R hE hx h
  obtain ⟨i, hi, hin⟩ : ∃ i, P.info? fd.type = some i ∧ i.size = n := by
    unfold sizeT at hs
    cases hi : P.info? fd.type with
    | none => simp [hi] at hs
    | some i => exact ⟨i, rfl, by simpa [hi] using hs⟩
  have hrun : ∀ (ad : Addr) (w' : World), a.eval x = .pointer (some ad) → (execOp a.eval o).run P w' = .ok (.value (.pointer (some (ad.add fd.offset)))) w' := by
    intro ad w' he
    simp [execOp, hop, he, Instr.fieldAt, Instr.sureAddr, run_underlying hu, hf, fieldPlace, sizeOf, typeInfo, hi, hin, hn]
  split at hK
  case h_1 b o' =>
    obtain ⟨g, hg, he⟩ := hR
    exact ⟨_, _, hK, ⟨g, hg, rfl⟩, fun w' => by rw [hrun _ w' he, addr_add]⟩
  case h_2 b wd i j =>
    obtain ⟨g, hg, he⟩ := hR
    exact ⟨_, _, hK, ⟨g, hg, rfl⟩, fun w' => by rw [hrun _ w' he, addr_add, Nat.add_assoc]⟩
  case h_3 ad =>
    obtain ⟨he, h1⟩ := hR
    exact ⟨_, _, hK, ⟨rfl, rfl⟩, fun w' => hrun _ w' he⟩
  case h_4 => exact hK.elim
theorem q_pick (hE : EnvR ρ s.env a.tmps) {c x y : Operand} {c' x' y' : X} (hop : o.op = .pick c x y) (hc : compX c = some c') (hx : compX x = some x') (hy : compX y = some y')
    (h : evI P w0 (.pick c' x' y') s K) : QOk P o a ρ s K := by
  simp only [evI] at h
  obtain ⟨b, hb, h1, h2⟩ := getBr_R hE hc h
  cases b with
  | true =>
    obtain ⟨z, _, hK, hR⟩ := getV_R hE hx (h1 rfl)
    exact ⟨_, _, hK, hR, fun w' => by simp [execOp, hop, hb, asBool]⟩
  | false =>
    obtain ⟨z, _, hK, hR⟩ := getV_R hE hy (h2 rfl)
    exact ⟨_, _, hK, hR, fun w' => by simp [execOp, hop, hb, asBool]⟩

/-- Two whole numbers. -/
theorem binI_run (op : BinOp) (t : TypeId) (k k' : IntKind) (x y : Int) {K : Value → Prop} (h : binI op k x k' y K) : ∃ v, K v ∧ v.oneCell' = true ∧ ∀ w', (binOp op t (.int k x) (.int k' y)).run P w' = .ok v w' := by
  have hk : ∀ {A : Prop}, chk (sameK k k') A → k = k' ∧ A := by
    intro A h
    unfold chk at h
    split at h
    · rename_i hs; exact ⟨sameK_eq hs, h⟩
    · exact h.elim
  cases op <;> simp only [binI] at h
  case shl => exact ⟨_, h.2, rfl, fun w' => by have := h.1; simp [binOp, Op.shift, show ¬ y < 0 by omega]⟩
  case shr => exact ⟨_, h.2, rfl, fun w' => by have := h.1; simp [binOp, Op.shift, show ¬ y < 0 by omega]⟩
  case quo => obtain ⟨hk1, h0, h2⟩ := hk h; subst hk1; exact ⟨_, h2, rfl, fun w' => by simp [binOp, Op.intDiv, h0]⟩
  case rem => obtain ⟨hk1, h0, h2⟩ := hk h; subst hk1; exact ⟨_, h2, rfl, fun w' => by simp [binOp, Op.intDiv, h0]⟩
  all_goals (obtain ⟨hk1, h2⟩ := hk h; subst hk1; exact ⟨_, h2, rfl, fun w' => by simp [binOp, Op.intArith, Op.intBits, Op.intCmp]⟩)
theorem eqGuard_int (op : BinOp) (t : TypeId) (x y : Operand) (k : IntKind) (n : Int) (v : Value) (w' : World) : (eqGuard op t x y (.int k n) v).run P w' = .ok () w' := by
  unfold eqGuard
  cases op <;> simp
theorem eqGuard_str (op : BinOp) (t : TypeId) (x y : Operand) (b : ByteArray) (v : Value) (w' : World) : (eqGuard op t x y (.string b) v).run P w' = .ok () w' := by
  unfold eqGuard
  cases op <;> simp
theorem eqGuard_bool (op : BinOp) (t : TypeId) (x y : Operand) (b : Bool) (v : Value) (w' : World) : (eqGuard op t x y (.bool b) v).run P w' = .ok () w' := by
  unfold eqGuard
  cases op <;> simp
theorem bin1_run {x y : Operand} (op : BinOp) (t : TypeId) (v v' : Value) {K : Value → Prop} (h : bin1 op v v' K) : ∃ r, K r ∧ r.oneCell' = true ∧ ∀ w', (do eqGuard op t x y v v'; binOp op t v v' : Sem Value).run P w' = .ok r w' := by
  cases v <;> simp only [bin1] at h
  case int k n =>
    cases v' <;> simp only at h
    case int k' n' =>
      obtain ⟨r, hr, h1, hrun⟩ := binI_run (P := P) op t k k' n n' h
      exact ⟨r, hr, h1, fun w' => by simp [eqGuard_int, hrun]⟩
  case string b =>
    cases v' <;> simp only at h
    case string b' =>
      cases op <;> simp only [binS] at h
      case add =>
        refine ⟨_, h.2, rfl, fun w' => ?_⟩
        have hle : ¬ (((b.size + b'.size : Nat) : Int) > IntKind.i64.max) := by
          have h1 := h.1
          have e : IntKind.i64.max = 9223372036854775807 := by decide
          rw [e]
          omega
        simp only [Sem.run_bind, eqGuard_str, Result.andThen_ok, binOp, Op.stringOp, if_neg hle]
        rfl
      case eql => exact ⟨_, h, rfl, fun w' => by simp [eqGuard_str, binOp, Op.stringOp]⟩
      case neq => exact ⟨_, h, rfl, fun w' => by simp [eqGuard_str, binOp, Op.stringOp]⟩
theorem q_bin (hE : EnvR ρ s.env a.tmps) {op : BinOp} {t u : TypeId} {x y : Operand} {x' y' : X} (hop : o.op = .binOp op t x y u) (hx : compX x = some x') (hy : compX y = some y')
    (h : evI P w0 (.bin op x' y') s K) : QOk P o a ρ s K := by
  simp only [evI] at h
  obtain ⟨z, hK0, hR⟩ := getC_R hE hx h
  obtain ⟨z', hK, hR'⟩ := getC_R hE hy hK0
  clear hK0
  cases z <;> simp only at hK
  case val v =>
    cases z' <;> simp only at hK
    case val v' =>
      obtain ⟨r, hr, h1, hrun⟩ := bin1_run (P := P) (x := x) (y := y) op t v v' hK
      refine ⟨_, r, hr, ⟨rfl, h1⟩, fun w' => ?_⟩
      have := hrun w'
      simp only [execOp, hop, hR.1, hR'.1]
      rw [Sem.run_bind, this, Result.andThen_ok]
      rfl
theorem chk_spec {b : Bool} {A : Prop} (h : chk b A) : b = true ∧ A := by
  cases b with
  | true => exact ⟨rfl, h⟩
  | false => exact h.elim
theorem q_bik (hE : EnvR ρ s.env a.tmps) {op : BinOp} {t u : TypeId} {x : Operand} {x' : X} {d : IntKind} {n : Nat} {y : Operand} (hop : o.op = .binOp op t x y u) (hx : compX x = some x') (hy : compX y = some (.k (.int d n)))
    (hn : n ≠ 0 ∨ op = .shl ∨ op = .shr) (h : evI P w0 (.bik op d x' n) s K) : QOk P o a ρ s K := by
  simp only [evI] at h
  obtain ⟨k, m, hK, he⟩ := getI_R hE hx h
  have he' : a.eval y = .int d n := (get_R hE hy (y := .o (.c (.val (.int d n)))) rfl).1
  cases op <;> simp only [binK] at hK
  case quo =>
    obtain ⟨hk, hK2⟩ := chk_spec hK
    have := sameK_eq hk
    subst this
    have hn' : n ≠ 0 := by rcases hn with h | h | h <;> first | omega | cases h
    exact ⟨_, _, hK2, ⟨rfl, rfl⟩, fun w' => by simp [execOp, hop, he, he', eqGuard_int, binOp, Op.intDiv, hn']⟩
  case rem =>
    obtain ⟨hk, hK2⟩ := chk_spec hK
    have := sameK_eq hk
    subst this
    have hn' : n ≠ 0 := by rcases hn with h | h | h <;> first | omega | cases h
    exact ⟨_, _, hK2, ⟨rfl, rfl⟩, fun w' => by simp [execOp, hop, he, he', eqGuard_int, binOp, Op.intDiv, hn']⟩
  case shl => exact ⟨_, _, hK, ⟨rfl, rfl⟩, fun w' => by simp [execOp, hop, he, he', eqGuard_int, binOp, Op.shift, show ¬ (n : Int) < 0 by omega]⟩
  case shr => exact ⟨_, _, hK, ⟨rfl, rfl⟩, fun w' => by simp [execOp, hop, he, he', eqGuard_int, binOp, Op.shift, show ¬ (n : Int) < 0 by omega]⟩
end
end Go.Vc
