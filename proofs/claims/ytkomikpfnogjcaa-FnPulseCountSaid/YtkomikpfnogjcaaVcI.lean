/- Stores, new blocks, appends, calls. -/
import Derived.Test.YtkomikpfnogjcaaVcH
import Derived.Maps.AppendAt
namespace Go.Vc
open Go.RowKit (Below)
section
variable {P : Program} {w0 : World} {cx : Cx} {ρ : Ren} {H : List Blk} {w : World}

/-- A step of the world that turns told blocks alone, and what is told behind it. -/
theorem Core.next (hC : Core w0 cx ρ H w) {t : Ren} {H' : List Blk} {w' : World} (hl : (ρ ++ t).length = H'.length) (hfr : FrameP w (image ρ H) w')
    (hok : ∀ (b : Nat) (k : Blk) (e : Option Nat × Nat), H'[b]? = some k → (ρ ++ t)[b]? = some e → k.ok (ρ ++ t) e w')
    (hinj : ∀ (b b' : Nat) (k k' : Blk) (g : Nat), H'[b]? = some k → H'[b']? = some k' → k.live = true → k'.live = true → Ren.at (ρ ++ t) b = some g → Ren.at (ρ ++ t) b' = some g → b = b')
    (him : ∀ g, image (ρ ++ t) H' g → (image ρ H g ∨ w.heap.size ≤ g) ∧ g < w'.heap.size) : Core w0 cx (ρ ++ t) H' w' := by
  obtain ⟨f1, f2, f3, f4, f5⟩ := hfr
  have hbase : Below w0.heap.size w0 w' := by
    refine ⟨f1.trans hC.rh.base.os, f2.trans hC.rh.base.tape, f3.trans hC.rh.base.output, Nat.le_trans hC.rh.base.size f4, fun k hk => ?_⟩
    have hkw : k < w.heap.size := Nat.lt_of_lt_of_le hk hC.rh.base.size
    have hni : ¬ image ρ H k := fun h => by have := (hC.rh.lo k h).1; omega
    exact (f5 k hkw hni).trans (hC.rh.base.block k hk)
  refine ⟨⟨hl, hok, hinj, fun g hg => ?_, hbase⟩, ?_, fun g hg => ?_, ?_⟩
  · obtain ⟨h1, h2⟩ := him g hg
    rcases h1 with h1 | h1
    · exact ⟨(hC.rh.lo g h1).1, h2⟩
    · exact ⟨Nat.le_trans hC.rh.base.size h1, h2⟩
  · obtain ⟨g1, g2, g3, g4, g5⟩ := hC.fr
    refine ⟨f1.trans g1, f2.trans g2, f3.trans g3, Nat.le_trans g4 f4, fun i hi hF => ?_⟩
    have hiw : i < w.heap.size := Nat.lt_of_lt_of_le hi g4
    have hni : ¬ image ρ H i := fun h => by
      rcases hC.own i h with h | h
      · exact hF h
      · omega
    exact (f5 i hiw hni).trans (g5 i hi hF)
  · obtain ⟨h1, _⟩ := him g hg
    rcases h1 with h1 | h1
    · exact hC.own g h1
    · exact .inr (Nat.le_trans hC.fr.2.2.2.1 h1)
  · obtain ⟨u, hu⟩ := hC.pre
    exact ⟨u ++ t, by rw [hu, List.append_assoc]⟩

theorem FrameP.refl (w : World) (F : Nat → Prop) : FrameP w F w := ⟨rfl, rfl, rfl, Nat.le_refl _, fun _ _ _ => rfl⟩

theorem image_get {b g : Nat} {k : Blk} (hb : H[b]? = some k) (hl : k.live = true) (hg : ρ.at b = some g) : image ρ H g := ⟨b, k, hb, hl, hg⟩

/-- One told block is turned where it lies. -/
theorem Core.set (hC : Core w0 cx ρ H w) {b g cap : Nat} {k k' : Blk} (hb : H[b]? = some k) (hl : k.live = true) (hρ : ρ[b]? = some (some g, cap)) {w' : World}
    (h1 : w'.os = w.os) (h2 : w'.tape = w.tape) (h3 : w'.output = w.output) (h4 : w'.heap.size = w.heap.size) (h5 : ∀ i, i ≠ g → w'.heap[i]? = w.heap[i]?) (hk : k'.ok ρ (some g, cap) w') : Core w0 cx ρ (H.set b k') w' := by
  have hat : ρ.at b = some g := at_of_get hρ
  have hblt : b < H.length := (List.getElem?_eq_some_iff.1 hb).1
  have hget : ∀ (b' : Nat) (q : Blk), (H.set b k')[b']? = some q → (b' = b ∧ q = k') ∨ (b' ≠ b ∧ H[b']? = some q) := by
    intro b' q hq
    by_cases hbb : b = b'
    · subst hbb
      rw [List.getElem?_set_self hblt] at hq
      exact .inl ⟨rfl, (Option.some.inj hq).symm⟩
    · rw [List.getElem?_set_ne hbb] at hq
      exact .inr ⟨fun h => hbb h.symm, hq⟩
  have hlive : ∀ (b' : Nat) (q : Blk), (H.set b k')[b']? = some q → q.live = true → ∃ q', H[b']? = some q' ∧ q'.live = true := by
    intro b' q hq hl'
    rcases hget b' q hq with ⟨rfl, _⟩ | ⟨_, h⟩
    · exact ⟨k, hb, hl⟩
    · exact ⟨q, h, hl'⟩
  have hres := Core.next hC (t := []) (H' := H.set b k') (w' := w') (by simpa using hC.rh.len) ⟨h1, h2, h3, by omega, fun i _ hni => h5 i fun he => hni (he ▸ image_get hb hl hat)⟩
    (fun b' q e hq he => by
      rw [List.append_nil] at he ⊢
      rcases hget b' q hq with ⟨rfl, rfl⟩ | ⟨hne, hq'⟩
      · rw [hρ] at he; cases he; exact hk
      · refine (hC.rh.ok b' q e hq' he).keep fun g' hg' hl' => h5 g' fun heq => hne ?_
        subst heq
        exact hC.rh.inj b' b q k g' hq' hb hl' hl (by rw [at_of_get he, hg']) hat)
    (fun b1 b2 q1 q2 g' hq1 hq2 hl1 hl2 hg1 hg2 => by
      rw [List.append_nil] at hg1 hg2
      obtain ⟨q1', hq1', hl1'⟩ := hlive b1 q1 hq1 hl1
      obtain ⟨q2', hq2', hl2'⟩ := hlive b2 q2 hq2 hl2
      exact hC.rh.inj b1 b2 q1' q2' g' hq1' hq2' hl1' hl2' hg1 hg2)
    (fun g' ⟨b', q, hq, hl', hg'⟩ => by
      rw [List.append_nil] at hg'
      obtain ⟨q', hq', hl''⟩ := hlive b' q hq hl'
      have := image_get hq' hl'' hg'
      exact ⟨.inl this, by rw [h4]; exact (hC.rh.lo g' this).2⟩)
  rwa [List.append_nil] at hres

theorem image_app {k : Blk} {e : Option Nat × Nat} {g : Nat} (hl : ρ.length = H.length) (h : image (ρ ++ [e]) (H ++ [k]) g) : image ρ H g ∨ e.1 = some g := by
  obtain ⟨b, q, hq, hl', hg⟩ := h
  rcases Nat.lt_or_ge b H.length with hb | hb
  · rw [List.getElem?_append_left hb] at hq
    refine .inl ⟨b, q, hq, hl', ?_⟩
    unfold Ren.at at hg ⊢
    rwa [List.getElem?_append_left (by omega)] at hg
  · have hb2 : b < (H ++ [k]).length := (List.getElem?_eq_some_iff.1 hq).1
    have hbe : b = ρ.length := by simp at hb2; omega
    subst hbe
    simp [Ren.at] at hg
    exact .inr hg

/-- A new block; 'H1' is told of the world behind. -/
theorem Core.push (hC : Core w0 cx ρ H w) {k : Blk} {cap : Nat} {w' : World} {x : Obj} (hw1 : w'.os = w.os) (hw2 : w'.tape = w.tape) (hw3 : w'.output = w.output) (hw4 : w'.heap = w.heap.push x)
    (hk : k.ok (ρ ++ [(some w.heap.size, cap)]) (some w.heap.size, cap) w') : Core w0 cx (ρ ++ [(some w.heap.size, cap)]) (H ++ [k]) w' := by
  have hold : ∀ i, i < w.heap.size → w'.heap[i]? = w.heap[i]? := fun i hi => by rw [hw4, Array.getElem?_push, if_neg (by omega)]
  have hlen := hC.rh.len
  have hlast : ∀ (b : Nat) (q : Blk), (H ++ [k])[b]? = some q → (b < H.length ∧ H[b]? = some q) ∨ (b = H.length ∧ q = k) := by
    intro b q hq
    rcases Nat.lt_or_ge b H.length with hb | hb
    · rw [List.getElem?_append_left hb] at hq; exact .inl ⟨hb, hq⟩
    · have hb2 : b < (H ++ [k]).length := (List.getElem?_eq_some_iff.1 hq).1
      have : b = H.length := by simp at hb2; omega
      subst this
      simp at hq
      exact .inr ⟨rfl, hq.symm⟩
  have hatl : ∀ b, b < H.length → Ren.at (ρ ++ [(some w.heap.size, cap)]) b = ρ.at b := fun b hb => by
    unfold Ren.at
    rw [List.getElem?_append_left (by omega)]
  have hatn : Ren.at (ρ ++ [(some w.heap.size, cap)]) H.length = some w.heap.size := by
    unfold Ren.at
    rw [← hlen]
    simp
  refine Core.next hC (by simp [hlen]) ⟨hw1, hw2, hw3, by rw [hw4]; simp, fun i hi _ => hold i hi⟩ (fun b q e hq he => ?_) (fun b1 b2 q1 q2 g h1 h2 l1 l2 a1 a2 => ?_) (fun g hg => ?_)
  · rcases hlast b q hq with ⟨hb, hq'⟩ | ⟨rfl, rfl⟩
    · rw [List.getElem?_append_left (by omega)] at he
      have hok := hC.rh.ok b q e hq' he
      exact (hok.keep fun g hg hl => hold g (hok.block hl hg)).more _
    · rw [← hlen] at he
      simp at he
      subst he
      exact hk
  · rcases hlast b1 q1 h1 with ⟨hb1, hq1⟩ | ⟨rfl, rfl⟩ <;> rcases hlast b2 q2 h2 with ⟨hb2, hq2⟩ | ⟨rfl, rfl⟩
    · rw [hatl b1 hb1] at a1
      rw [hatl b2 hb2] at a2
      exact hC.rh.inj b1 b2 q1 q2 g hq1 hq2 l1 l2 a1 a2
    · rw [hatl b1 hb1] at a1
      rw [hatn] at a2
      cases a2
      have := (hC.rh.lo _ (image_get hq1 l1 a1)).2
      omega
    · rw [hatl b2 hb2] at a2
      rw [hatn] at a1
      cases a1
      have := (hC.rh.lo _ (image_get hq2 l2 a2)).2
      omega
    · rfl
  · rcases image_app hlen hg with h | h
    · exact ⟨.inl h, by have := (hC.rh.lo g h).2; rw [hw4]; simp; omega⟩
    · simp at h
      subst h
      exact ⟨.inr (Nat.le_refl _), by rw [hw4]; simp⟩

/-- A block is told no more. -/
theorem Core.kill (hC : Core w0 cx ρ H w) (b : Nat) : Core w0 cx ρ (H.set b .dead) w := by
  have hget : ∀ (b' : Nat) (q : Blk), (H.set b .dead)[b']? = some q → q.live = true → H[b']? = some q := by
    intro b' q hq hl
    by_cases hbb : b = b'
    · subst hbb
      by_cases hb : b < H.length
      · rw [List.getElem?_set_self hb] at hq
        cases hq
        cases hl
      · rw [List.getElem?_eq_none (by simpa using Nat.not_lt.1 hb)] at hq
        cases hq
    · rwa [List.getElem?_set_ne hbb] at hq
  have himg : ∀ g, image ρ (H.set b .dead) g → image ρ H g := fun g ⟨b', q, hq, hl, hg⟩ => ⟨b', q, hget b' q hq hl, hl, hg⟩
  refine ⟨⟨by simpa using hC.rh.len, fun b' q e hq he => ?_, fun b1 b2 q1 q2 g h1 h2 l1 l2 => hC.rh.inj b1 b2 q1 q2 g (hget _ _ h1 l1) (hget _ _ h2 l2) l1 l2, fun g hg => hC.rh.lo g (himg g hg), hC.rh.base⟩, hC.fr, fun g hg => hC.own g (himg g hg), hC.pre⟩
  cases hl : q.live with
  | true => exact hC.rh.ok b' q e (hget b' q hq hl) he
  | false => cases q <;> first | trivial | cases hl

/-- What block 'b' lies in is told under a new number: in the same place (turned or not), or in a new one. -/
theorem Core.move (hC : Core w0 cx ρ H w) {b : Nat} {k k' : Blk} (hb : H[b]? = some k) (hl : k.live = true) {e e' : Option Nat × Nat} (hρ : ρ[b]? = some e) {w' : World}
    (h1 : w'.os = w.os) (h2 : w'.tape = w.tape) (h3 : w'.output = w.output) (h4 : w.heap.size ≤ w'.heap.size) (h5 : ∀ i, i < w.heap.size → some i ≠ e.1 → w'.heap[i]? = w.heap[i]?)
    (hk : k'.ok (ρ ++ [e']) e' w') (he' : ∀ g, e'.1 = some g → (e.1 = some g ∨ w.heap.size ≤ g) ∧ g < w'.heap.size) : Core w0 cx (ρ ++ [e']) (H.set b .dead ++ [k']) w' := by
  have hK := hC.kill b
  have hlen := hC.rh.len
  have hblt : b < H.length := (List.getElem?_eq_some_iff.1 hb).1
  have hdead : ∀ (b' : Nat) (q : Blk), (H.set b .dead)[b']? = some q → q.live = true → b' ≠ b ∧ H[b']? = some q := by
    intro b' q hq hl'
    by_cases hbb : b = b'
    · subst hbb
      rw [List.getElem?_set_self hblt] at hq
      cases hq
      cases hl'
    · rw [List.getElem?_set_ne hbb] at hq
      exact ⟨fun h => hbb h.symm, hq⟩
  have hlast : ∀ (b' : Nat) (q : Blk), (H.set b .dead ++ [k'])[b']? = some q → (b' < H.length ∧ (H.set b .dead)[b']? = some q) ∨ (b' = H.length ∧ q = k') := by
    intro b' q hq
    rcases Nat.lt_or_ge b' H.length with hb' | hb'
    · rw [List.getElem?_append_left (by simpa using hb')] at hq; exact .inl ⟨hb', hq⟩
    · have hb2 : b' < (H.set b .dead ++ [k']).length := (List.getElem?_eq_some_iff.1 hq).1
      have : b' = H.length := by simp at hb2; omega
      subst this
      have hq2 : (H.set b .dead ++ [k'])[(H.set b .dead).length]? = some q := by simpa using hq
      simp at hq2
      exact .inr ⟨rfl, hq2.symm⟩
  have hatl : ∀ b', b' < H.length → Ren.at (ρ ++ [e']) b' = ρ.at b' := fun b' hb' => by
    unfold Ren.at
    rw [List.getElem?_append_left (by omega)]
  have hatn : Ren.at (ρ ++ [e']) H.length = e'.1 := by
    unfold Ren.at
    rw [← hlen]
    simp
  -- a live block other than 'b' lies elsewhere
  have hother : ∀ (b' : Nat) (q : Blk) (g : Nat), b' ≠ b → H[b']? = some q → q.live = true → ρ.at b' = some g → some g ≠ e.1 := by
    intro b' q g hne hq hl' hg heq
    exact hne (hC.rh.inj b' b q k g hq hb hl' hl hg (by rw [at_of_get hρ, ← heq]))
  refine Core.next hC (by simp [hlen]) ⟨h1, h2, h3, h4, fun i hi hni => h5 i hi fun he => hni (image_get hb hl (by rw [at_of_get hρ, ← he]))⟩ (fun b' q e1 hq he1 => ?_) (fun b1 b2 q1 q2 g x1 x2 l1 l2 a1 a2 => ?_) (fun g hg => ?_)
  · rcases hlast b' q hq with ⟨hb', hq'⟩ | ⟨rfl, rfl⟩
    · rw [List.getElem?_append_left (by omega)] at he1
      cases hl' : q.live with
      | false => cases q <;> first | trivial | cases hl'
      | true =>
        obtain ⟨hne, hq2⟩ := hdead b' q hq' hl'
        have hok := hC.rh.ok b' q e1 hq2 he1
        exact (hok.keep fun g hg _ => h5 g (hok.block hl' hg) (hother b' q g hne hq2 hl' (by rw [at_of_get he1, hg]))).more _
    · rw [← hlen] at he1
      simp at he1
      subst he1
      exact hk
  · rcases hlast b1 q1 x1 with ⟨hb1, hq1⟩ | ⟨rfl, rfl⟩ <;> rcases hlast b2 q2 x2 with ⟨hb2, hq2⟩ | ⟨rfl, rfl⟩
    · rw [hatl b1 hb1] at a1
      rw [hatl b2 hb2] at a2
      exact hC.rh.inj b1 b2 q1 q2 g (hdead _ _ hq1 l1).2 (hdead _ _ hq2 l2).2 l1 l2 a1 a2
    · rw [hatl b1 hb1] at a1
      rw [hatn] at a2
      obtain ⟨hne, hq⟩ := hdead _ _ hq1 l1
      rcases (he' g a2).1 with h | h
      · exact absurd h.symm (hother b1 q1 g hne hq l1 a1)
      · have := (hC.rh.lo g (image_get hq l1 a1)).2; omega
    · rw [hatl b2 hb2] at a2
      rw [hatn] at a1
      obtain ⟨hne, hq⟩ := hdead _ _ hq2 l2
      rcases (he' g a1).1 with h | h
      · exact absurd h.symm (hother b2 q2 g hne hq l2 a2)
      · have := (hC.rh.lo g (image_get hq l2 a2)).2; omega
    · rfl
  · rcases image_app (by simpa using hlen) hg with h | h
    · have hi : image ρ H g := by
        obtain ⟨b', q, hq, hl', hg'⟩ := h
        exact ⟨b', q, (hdead b' q hq hl').2, hl', hg'⟩
      exact ⟨.inl hi, by have := (hC.rh.lo g hi).2; omega⟩
    · obtain ⟨x1, x2⟩ := he' g h
      refine ⟨?_, x2⟩
      rcases x1 with x1 | x1
      · exact .inl (image_get hb hl (by rw [at_of_get hρ, x1]))
      · exact .inr x1

/-- Only draws: the world is told as it was. -/
theorem Core.same (hC : Core w0 cx ρ H w) {w' : World} (h1 : w'.os = w.os) (h2 : w'.tape = w.tape) (h3 : w'.output = w.output) (h4 : w'.heap = w.heap) : Core w0 cx ρ H w' := by
  have := Core.next hC (t := []) (H' := H) (w' := w') (by simpa using hC.rh.len) ⟨h1, h2, h3, by rw [h4]; exact Nat.le_refl _, fun i _ _ => by rw [h4]⟩
    (fun b q e hq he => by rw [List.append_nil] at he ⊢; exact (hC.rh.ok b q e hq he).keep fun g _ _ => by rw [h4])
    (fun b1 b2 q1 q2 g x1 x2 l1 l2 a1 a2 => by rw [List.append_nil] at a1 a2; exact hC.rh.inj b1 b2 q1 q2 g x1 x2 l1 l2 a1 a2)
    (fun g hg => by rw [List.append_nil] at hg; exact ⟨.inl hg, by rw [h4]; exact (hC.rh.lo g hg).2⟩)
  rwa [List.append_nil] at this
end
end Go.Vc
