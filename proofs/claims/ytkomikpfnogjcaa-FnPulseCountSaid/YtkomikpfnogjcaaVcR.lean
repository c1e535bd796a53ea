/- What is said of a function over blocks of its own holds wherever such blocks lie. -/
import Derived.Test.YtkomikpfnogjcaaVcQ
namespace Go.Vc
open Go.RowKit (Below)
section
variable {P : Program} {w0 : World}

/-- Blocks are laid at their places; what is left over comes at the end. -/
def putAll : List Nat → List Blk → List Blk → List Blk
  | [], ks, H => H ++ ks
  | i :: is, k :: ks, H => putAll is ks (H.set i k)
  | _ :: _, [], H => H
def more : Nat → Nat → List Nat
  | _, 0 => []
  | k, n + 1 => k :: more (k + 1) n
def lenF : List Blk → Nat
  | [] => 0
  | _ :: l => lenF l + 1
/-- New blocks come behind the old. -/
def widen (σ : List Nat) (H H0 : List Blk) : List Nat := σ ++ more H.length (H0.length - σ.length)

theorem more_length : ∀ {n k : Nat}, (more k n).length = n
  | 0, _ => rfl
  | n + 1, k => by simp [more, more_length]
theorem more_get : ∀ {n k i : Nat}, i < n → (more k n)[i]? = some (k + i)
  | n + 1, k, 0, _ => rfl
  | n + 1, k, i + 1, h => by
    simp only [more, List.getElem?_cons_succ]
    rw [more_get (by omega)]
    congr 1
    omega
theorem putAll_length : ∀ {σ : List Nat} {ks H : List Blk}, σ.length ≤ ks.length → (putAll σ ks H).length = H.length + (ks.length - σ.length)
  | [], ks, H, _ => by simp [putAll]
  | i :: is, k :: ks, H, h => by
    simp only [putAll]
    rw [putAll_length (by simpa using h)]
    simp
theorem putAll_out : ∀ {σ : List Nat} {ks H : List Blk} {b : Nat}, σ.length ≤ ks.length → b ∉ σ → b < H.length → (putAll σ ks H)[b]? = H[b]?
  | [], ks, H, b, _, _, hb => by simp [putAll, List.getElem?_append_left hb]
  | i :: is, k :: ks, H, b, h, hn, hb => by
    simp only [putAll]
    rw [putAll_out (by simpa using h) (fun hm => hn (by simp [hm])) (by simpa using hb)]
    rw [List.getElem?_set_ne (fun he => hn (by simp [he]))]
theorem putAll_in : ∀ {σ : List Nat} {ks H : List Blk} {b j : Nat}, σ.length ≤ ks.length → σ.Nodup → (∀ i ∈ σ, i < H.length) → σ[j]? = some b → (putAll σ ks H)[b]? = ks[j]?
  | [], ks, H, b, j, _, _, _, hj => by simp at hj
  | i :: is, k :: ks, H, b, j, h, hn, hlt, hj => by
    simp only [putAll]
    obtain ⟨hn1, hn2⟩ := List.nodup_cons.1 hn
    cases j with
    | zero =>
      simp at hj
      subst hj
      have hi := hlt i (by simp)
      rw [putAll_out (by simpa using h) hn1 (by simpa using hi)]
      simp [hi]
    | succ j =>
      rw [putAll_in (by simpa using h) hn2 (fun i' hi' => by simpa using hlt i' (by simp [hi'])) (by simpa using hj)]
      simp
theorem putAll_new : ∀ {σ : List Nat} {ks H : List Blk} {j : Nat}, σ.length ≤ ks.length → (putAll σ ks H)[H.length + j]? = ks[σ.length + j]?
  | [], ks, H, j, _ => by
    simp only [putAll, List.length_nil, Nat.zero_add]
    rw [List.getElem?_append_right (by omega), Nat.add_sub_cancel_left]
  | i :: is, k :: ks, H, j, h => by
    simp only [putAll]
    have := putAll_new (σ := is) (ks := ks) (H := H.set i k) (j := j) (by simpa using h)
    simp only [List.length_set] at this
    rw [this]
    have : (i :: is).length + j = (is.length + j) + 1 := by simp; omega
    rw [this]
    simp

theorem liveIds_sub : ∀ {H0 : List Blk} {is : List Nat}, (liveIds H0 is).Sublist is
  | [], is => by simp [liveIds]
  | k :: r, [] => by cases k <;> simp [liveIds]
  | k :: r, i :: is => by
    have := liveIds_sub (H0 := r) (is := is)
    cases k <;> simp [liveIds, this, List.Sublist.cons]
theorem nodupB_of : ∀ {l : List Nat}, l.Nodup → nodupB l = true
  | [], _ => rfl
  | x :: r, h => by
    obtain ⟨h1, h2⟩ := List.nodup_cons.1 h
    simp only [nodupB, nodupB_of h2, Bool.and_true, Bool.not_eq_true']
    cases ha : r.any (Nat.beq x) with
    | false => rfl
    | true =>
      obtain ⟨y, hy, hxy⟩ := List.any_eq_true.1 ha
      have := Nat.eq_of_beq_eq_true hxy
      subst this
      exact absurd hy h1
theorem live_of_ren {σ : List Nat} {k : Blk} (h : (k.ren σ).live = true) : k.live = true := by cases k <;> first | exact h | rfl

theorem CallsA.lift {f : FuncId} {args0 args : List A1} {H0 H : List Blk} {R0 R : AV → List Blk → Prop} (σ : List Nat) (hσn : nodupB σ = true) (hemb : embH σ H H0 σ) (hargs : args0.map (A1.ren σ) = args) (h : CallsA P w0 f args0 H0 R0)
    (hR : ∀ r0 H0', R0 r0 H0' → R (r0.ren (widen σ H H0')) (putAll σ (H0'.map (Blk.ren (widen σ H H0'))) H)) : CallsA P w0 f args H R := by
  subst hargs
  have hnd := nodupB_spec hσn
  obtain ⟨hlen0, hσlt, hget0⟩ := embH_spec hemb
  refine ⟨h.cal, fun ρ w vs hRH hA => ?_⟩
  have hE : EmbH 0 σ H0 H := ⟨by simp, hemb, nodupB_of (hnd.sublist liveIds_sub)⟩
  have hC0 : Core w0 ⟨w, image ρ H, [], []⟩ ρ H w := ⟨hRH, FrameP.refl _ _, fun g hg => .inl hg, ⟨ρ, rfl⟩⟩
  have hC1 := EmbH.core hE rfl hC0
  refine (h.out (ρ.sub σ) w vs hC1.rh ((All2.of_map_left hA).mono fun _ _ => A1.R.of_ren)).mono fun e w' he => ?_
  obtain ⟨r0, H0', ρ0', v, hR0, rfl, hv, hRH', ⟨t, rfl⟩, hfr, himg⟩ := he
  have hsub : ∀ i, i ∈ σ → i < ρ.length := fun i hi => by rw [hRH.len]; exact hσlt i hi
  have hlen' : H0'.length = σ.length + t.length := by rw [← hRH'.len]; simp [Ren.sub]
  have hext : H0'.length - σ.length = t.length := by omega
  have hρs : (ρ ++ t).sub (widen σ H H0') = ρ.sub σ ++ t := by
    apply List.ext_getElem?
    intro i
    unfold Ren.sub widen
    rw [hext, List.map_append]
    rcases Nat.lt_or_ge i σ.length with hi | hi
    · rw [List.getElem?_append_left (by simpa using hi), List.getElem?_append_left (by simpa using hi), List.getElem?_map, List.getElem?_map]
      rw [List.getElem?_eq_getElem hi]
      simp only [Option.map_some, List.getD_eq_getElem?_getD]
      rw [List.getElem?_append_left (hsub _ (List.getElem_mem hi))]
    · rw [List.getElem?_append_right (by simpa using hi), List.getElem?_append_right (by simpa using hi), List.getElem?_map]
      simp only [List.length_map]
      rcases Nat.lt_or_ge (i - σ.length) t.length with hj | hj
      · rw [more_get hj]
        simp only [Option.map_some, List.getD_eq_getElem?_getD]
        rw [List.getElem?_append_right (by rw [hRH.len]; omega), hRH.len, Nat.add_sub_cancel_left, List.getElem?_eq_getElem hj]
        rfl
      · rw [List.getElem?_eq_none (by rw [more_length]; exact hj), List.getElem?_eq_none hj]
        rfl
  have hwlt : ∀ i ∈ widen σ H H0', i < (ρ ++ t).length := by
    intro i hi
    unfold widen at hi
    rw [hext] at hi
    rcases List.mem_append.1 hi with hi | hi
    · have := hsub i hi
      simp
      omega
    · obtain ⟨j, hj, rfl⟩ := List.mem_iff_getElem.1 hi
      have hjt : j < t.length := by rwa [more_length] at hj
      have := more_get (k := H.length) hjt
      rw [List.getElem?_eq_getElem hj] at this
      simp only [Option.some.injEq] at this
      rw [this]
      simp [hRH.len]
      omega
  -- which block lies where
  have hks : σ.length ≤ (H0'.map (Blk.ren (widen σ H H0'))).length := by simp [hlen']
  have hcases : ∀ (b : Nat) (k : Blk), (putAll σ (H0'.map (Blk.ren (widen σ H H0'))) H)[b]? = some k →
      (b < H.length ∧ b ∉ σ ∧ H[b]? = some k) ∨ ∃ (j : Nat) (k0 : Blk), (widen σ H H0')[j]? = some b ∧ H0'[j]? = some k0 ∧ k = k0.ren (widen σ H H0') := by
    intro b k hb
    rcases Nat.lt_or_ge b H.length with hlt | hge
    · by_cases hm : b ∈ σ
      · obtain ⟨j, hj, hjb⟩ := List.mem_iff_getElem.1 hm
        have hj' : σ[j]? = some b := by rw [List.getElem?_eq_getElem hj, hjb]
        rw [putAll_in hks hnd (fun i hi => hσlt i hi) hj', List.getElem?_map] at hb
        obtain ⟨k0, h0, h1⟩ := Option.map_eq_some_iff.1 hb
        exact .inr ⟨j, k0, by unfold widen; rw [List.getElem?_append_left hj]; exact hj', h0, h1.symm⟩
      · rw [putAll_out hks hm hlt] at hb
        exact .inl ⟨hlt, hm, hb⟩
    · obtain ⟨j, rfl⟩ : ∃ j, b = H.length + j := ⟨b - H.length, by omega⟩
      rw [putAll_new hks, List.getElem?_map] at hb
      obtain ⟨k0, h0, h1⟩ := Option.map_eq_some_iff.1 hb
      have hjt : j < t.length := by
        have := (List.getElem?_eq_some_iff.1 h0).1
        omega
      refine .inr ⟨σ.length + j, k0, ?_, h0, h1.symm⟩
      unfold widen
      rw [hext, List.getElem?_append_right (by omega), Nat.add_sub_cancel_left, more_get hjt]
  have hat : ∀ j b, (widen σ H H0')[j]? = some b → Ren.at (ρ.sub σ ++ t) j = Ren.at (ρ ++ t) b := fun j b hj => by rw [← hρs]; exact Ren.sub_at hj
  have hold : ∀ b : Nat, b < H.length → Ren.at (ρ ++ t) b = ρ.at b := fun b hb => by
    unfold Ren.at
    rw [List.getElem?_append_left (by rw [hRH.len]; exact hb)]
  have hin : ∀ g : Nat, image (ρ.sub σ) H0 g → ∃ i k, i ∈ σ ∧ H[i]? = some k ∧ k.live = true ∧ ρ.at i = some g := by
    rintro g ⟨b, k, hb, hl, hg⟩
    obtain ⟨i, hi, hHi, hl'⟩ := hget0 b k hb hl
    exact ⟨i, _, List.mem_of_getElem? hi, hHi, hl', by rw [← Ren.sub_at hi]; exact hg⟩
  have hfar : ∀ (b : Nat) (k : Blk) (g : Nat), b < H.length → b ∉ σ → H[b]? = some k → k.live = true → ρ.at b = some g → ¬ image (ρ.sub σ) H0 g ∧ g < w.heap.size := by
    intro b k g hb hn hk hl hg
    refine ⟨fun him => ?_, (hRH.lo g ⟨b, k, hk, hl, hg⟩).2⟩
    obtain ⟨i, k', hi, hk', hl', hg'⟩ := hin g him
    have := hRH.inj b i k k' g hk hk' hl hl' hg hg'
    subst this
    exact hn hi
  have himg' : ∀ g : Nat, image (ρ ++ t) (putAll σ (H0'.map (Blk.ren (widen σ H H0'))) H) g → image ρ H g ∨ image (ρ.sub σ ++ t) H0' g := by
    rintro g ⟨b, k, hb, hl, hg⟩
    rcases hcases b k hb with ⟨hlt, _, hk⟩ | ⟨j, k0, hj, hk0, rfl⟩
    · rw [hold b hlt] at hg
      exact .inl ⟨b, k, hk, hl, hg⟩
    · exact .inr ⟨j, k0, hk0, live_of_ren hl, by rw [hat j b hj]; exact hg⟩
  have himg2 : ∀ g : Nat, image (ρ.sub σ) H0 g → image ρ H g := fun g hg => by
    obtain ⟨i, k, _, h1, h2, h3⟩ := hin g hg
    exact ⟨i, k, h1, h2, h3⟩
  refine ⟨_, _, ρ ++ t, v, hR _ _ hR0, rfl, AV.R.ren hwlt (by rw [hρs]; exact hv), ⟨?_, fun b k e hb he => ?_, fun b b' k k' g hb hb' l l' a a' => ?_, fun g hg => ?_, hRH'.base⟩, ⟨t, rfl⟩, ⟨hfr.1, hfr.2.1, hfr.2.2.1, hfr.2.2.2.1, fun i hi hn => hfr.2.2.2.2 i hi fun him => hn (himg2 i him)⟩, fun g hg => ?_⟩
  · rw [putAll_length hks]
    simp [hRH.len, hlen']
  · rcases hcases b k hb with ⟨hlt, hn, hk⟩ | ⟨j, k0, hj, hk0, rfl⟩
    · rw [List.getElem?_append_left (by rw [hRH.len]; exact hlt)] at he
      refine ((hRH.ok b k e hk he).keep fun g hg hl => ?_).more t
      obtain ⟨h1, h2⟩ := hfar b k g hlt hn hk hl (by unfold Ren.at; rw [he]; exact hg)
      exact hfr.2.2.2.2 g h2 h1
    · refine Blk.ok.ren hwlt ?_
      rw [hρs]
      refine hRH'.ok j k0 e hk0 ?_
      rw [← hρs, Ren.sub_get hj, List.getD_eq_getElem?_getD, he]
      rfl
  · rcases hcases b k hb with ⟨hlt, hn, hk⟩ | ⟨j, k0, hj, hk0, rfl⟩
    · rw [hold b hlt] at a
      obtain ⟨h1, h2⟩ := hfar b k g hlt hn hk l a
      rcases hcases b' k' hb' with ⟨hlt', hn', hk'⟩ | ⟨j', k0', hj', hk0', rfl⟩
      · rw [hold b' hlt'] at a'
        exact hRH.inj b b' k k' g hk hk' l l' a a'
      · rcases himg g ⟨j', k0', hk0', live_of_ren l', by rw [hat j' b' hj']; exact a'⟩ with h | h
        · exact absurd h h1
        · omega
    · rcases hcases b' k' hb' with ⟨hlt', hn', hk'⟩ | ⟨j', k0', hj', hk0', rfl⟩
      · rw [hold b' hlt'] at a'
        obtain ⟨h1, h2⟩ := hfar b' k' g hlt' hn' hk' l' a'
        rcases himg g ⟨j, k0, hk0, live_of_ren l, by rw [hat j b hj]; exact a⟩ with h | h
        · exact absurd h h1
        · omega
      · have := hRH'.inj j j' k0 k0' g hk0 hk0' (live_of_ren l) (live_of_ren l') (by rw [hat j b hj]; exact a) (by rw [hat j' b' hj']; exact a')
        subst this
        rw [hj] at hj'
        exact Option.some.inj hj'
  · rcases himg' g hg with h | h
    · have := hRH.lo g h
      exact ⟨this.1, Nat.lt_of_lt_of_le this.2 hfr.2.2.2.1⟩
    · exact hRH'.lo g h
  · rcases himg' g hg with h | h
    · exact .inl h
    · rcases himg g h with h | h
      · exact .inl (himg2 g h)
      · exact .inr h
end
end Go.Vc
