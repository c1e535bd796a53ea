/- The package's decoder of vectors, through the range coder. -/
import Derived.Test.YtkomikpfnogjcaaDoorPuG
import Derived.Test.YtkomikpfnogjcaaDoorPuR
namespace Go.Proofs.YtkomikpfnogjcaaDoor
open Go Go.Vc
set_option maxRecDepth 100000
set_option maxHeartbeats 8000000

/-- Blocks that may be written, taken for blocks that are only read. -/
def roB : Blk → Blk
  | .vec _ T e bs wd xs => .vec false T e bs wd xs
  | b => b
theorem roB_ok {k : Blk} {ρ : Ren} {e : Option Nat × Nat} {w : World} (h : k.ok ρ e w) : (roB k).ok ρ e w := by
  cases k with
  | dead => exact h
  | cells T cs => exact h
  | vec wr T en bs wd xs =>
    obtain ⟨h1, h2, h3⟩ := h
    refine ⟨h1, h2, ?_⟩
    rcases h3 with h3 | ⟨g, arr, fz, a, b, c, d, e', f, _⟩
    · exact .inl h3
    · exact .inr ⟨g, arr, fz, a, b, c, d, e', f, fun h => by cases h⟩
  | fam T en wd xss => exact h
theorem roB_live (k : Blk) : (roB k).live = k.live := by cases k <;> rfl
theorem ro_image {ρ : Ren} {H : List Blk} {g : Nat} : image ρ (H.map roB) g ↔ image ρ H g := by
  constructor
  · rintro ⟨b, k, hb, hl, hg⟩
    rw [List.getElem?_map] at hb
    cases hq : H[b]? with
    | none => rw [hq] at hb; cases hb
    | some q =>
      rw [hq] at hb
      cases hb
      exact ⟨b, q, hq, by rw [← roB_live]; exact hl, hg⟩
  · rintro ⟨b, k, hb, hl, hg⟩
    exact ⟨b, roB k, by rw [List.getElem?_map, hb]; rfl, by rw [roB_live]; exact hl, hg⟩
theorem calls_ro {P : Program} {w0 : World} {f : FuncId} {args : List A1} {H : List Blk} {R : AV → List Blk → Prop} (h : CallsA P w0 f args (H.map roB) R) : CallsA P w0 f args H R := by
  refine ⟨h.cal, fun ρ w vs hRH hA => ?_⟩
  have hi : image ρ (H.map roB) = image ρ H := funext fun g => propext ro_image
  have hRH' : RH w0 ρ (H.map roB) w := by
    refine ⟨by rw [List.length_map]; exact hRH.len, fun b k e hb he => ?_, fun b b' k k' g hb hb' hl hl' => ?_, fun g hg => hRH.lo g (by rw [← hi]; exact hg), hRH.base⟩
    · rw [List.getElem?_map] at hb
      cases hq : H[b]? with
      | none => rw [hq] at hb; cases hb
      | some q =>
        rw [hq] at hb
        cases hb
        exact roB_ok (hRH.ok b q e hq he)
    · rw [List.getElem?_map] at hb hb'
      cases hq : H[b]? with
      | none => rw [hq] at hb; cases hb
      | some q =>
        cases hq' : H[b']? with
        | none => rw [hq'] at hb'; cases hb'
        | some q' =>
          rw [hq] at hb
          rw [hq'] at hb'
          cases hb
          cases hb'
          rw [roB_live] at hl hl'
          exact hRH.inj b b' q q' g hq hq' hl hl'
  have := h.out ρ w vs hRH' hA
  rw [hi] at this
  exact this
theorem decInitT (w0 : World) {xs : List Int} (hb : ∀ x ∈ xs, 0 ≤ x ∧ x < 256) (hl : xs.length ≤ 1099511627776) :
    CallsA Tryd.prog w0 24 [.c (.ptr 0 0), .c (.vec 1 xs.length)] [.cells 51 [.val (.slice none 0 0), .val (.int .u64 0), .val (.int .u64 0), .val (.int .u64 0), .val (.int .u32 0), .val (.int .u32 0)], byteBlk xs] fun r H => r = .t [] ∧ H = (Dec.init xs).H :=
  calls_ro (decInit w0 hb hl)

theorem flat_rep32 (m : Nat) : flat (encI .u32) [] (List.replicate m 0) = List.replicate m (.val (.int .u32 ((0 : Nat) : Int))) := by
  rw [flat_encI, List.map_replicate]
  rfl
theorem setAll_all (n k i : Nat) : setAll (List.replicate n 0) 0 (vecOf n k i) = vecOf n k i :=
  setAll_mid (pre := []) (rest := List.replicate n 0) rfl (by rw [List.length_replicate, vecOf_len])
theorem decodePulsesW (w0 : World) {d : Dec} {N n k : Nat} (h : d.inv N) (hN : N ≤ 1152921504606846900) (hn : 2 ≤ n) (hn2 : n ≤ 20) (hk : 1 ≤ k) (hk2 : k ≤ 20) (hv : vv n k < 4294967296) (hv2 : 2 ≤ vv n k) (hi : (d.whole (vv n k)).1 < vv n k) :
    CallsA Tryd.prog w0 47 [.c (.vec 0 n), .c (.val (.int .i64 n)), .c (.val (.int .i64 k)), .c (.ptr 1 0), .c (.val (.map none))] (intB (List.replicate n 0) :: (d.H.map (Blk.ren [1, 2]))) fun r H => r = .t [] ∧ H = intB (vecOf n k (d.whole (vv n k)).1) :: ((d.whole (vv n k)).2.2.H.map (Blk.ren [1, 2])) := by
  have hu := uniform w0 h hN hv2 hv
  obtain ⟨i, hii⟩ : ∃ i, i = (d.whole (vv n k)).1 := ⟨_, rfl⟩
  obtain ⟨ok, hok⟩ : ∃ ok, ok = (d.whole (vv n k)).2.1 := ⟨_, rfl⟩
  obtain ⟨d', hd'⟩ : ∃ d', d' = (d.whole (vv n k)).2.2 := ⟨_, rfl⟩
  rw [← hii, ← hok, ← hd'] at hu
  rw [← hii] at hi ⊢
  rw [← hd']
  refine callsA_of_ev c47_ ?_
  conv => whnf
  refine Or.inl ?_
  conv => whnf
  refine ⟨fun g => absurd (show k ≤ 0 from le_t g) (by omega), fun _ => ?_⟩
  conv => whnf
  refine Or.inl ?_
  conv => whnf
  refine ⟨fun g => ?_, fun g => ?_⟩
  · have g : n = 2 := beq_t g
    subst g
    conv => whnf
    refine CallsA.lift (H0 := []) [] rfl trivial rfl (count2W w0 k (by omega) hk) ?_
    rintro _ _ ⟨rfl, rfl⟩
    conv => whnf
    refine CallsA.lift (H0 := d.H) [1, 2] rfl ⟨rfl, rfl, rfl, rfl, trivial⟩ rfl hu ?_
    rintro _ _ ⟨rfl, rfl⟩
    conv => whnf
    refine CallsA.lift (H0 := [intB (List.replicate 2 0)]) [0] rfl ⟨rfl, rfl, trivial⟩ rfl (decode2V w0 (ys := List.replicate 2 0) (n := 2) (k := k) (i := i) rfl (by omega) (by omega) hi) ?_
    rintro _ _ ⟨rfl, rfl⟩
    conv => whnf
    refine Or.inl ⟨rfl, ?_⟩
    rw [setAll_all]
    rfl
  have g2 : n ≠ 2 := beq_f g
  conv => whnf
  refine ⟨fun g => ?_, fun g => ?_⟩
  · have g : n = 3 := beq_t g
    subst g
    conv => whnf
    refine CallsA.lift (H0 := []) [] rfl trivial rfl (count3W w0 k (by omega) hk) ?_
    rintro _ _ ⟨rfl, rfl⟩
    conv => whnf
    refine CallsA.lift (H0 := d.H) [1, 2] rfl ⟨rfl, rfl, rfl, rfl, trivial⟩ rfl hu ?_
    rintro _ _ ⟨rfl, rfl⟩
    conv => whnf
    refine CallsA.lift (H0 := [intB (List.replicate 3 0)]) [0] rfl ⟨rfl, rfl, trivial⟩ rfl (decode3V w0 (ys := List.replicate 3 0) (n := 3) (k := k) (i := i) rfl (by omega) (by omega) hi) ?_
    rintro _ _ ⟨rfl, rfl⟩
    conv => whnf
    refine Or.inl ⟨rfl, ?_⟩
    rw [setAll_all]
    rfl
  have g3 : n ≠ 3 := beq_f g
  conv => whnf
  refine ⟨fun g => ?_, fun g => ?_⟩
  · have g : n = 4 := beq_t g
    subst g
    conv => whnf
    refine CallsA.lift (H0 := []) [] rfl trivial rfl (count4W w0 k (by omega) hk) ?_
    rintro _ _ ⟨rfl, rfl⟩
    conv => whnf
    refine CallsA.lift (H0 := d.H) [1, 2] rfl ⟨rfl, rfl, rfl, rfl, trivial⟩ rfl hu ?_
    rintro _ _ ⟨rfl, rfl⟩
    conv => whnf
    refine CallsA.lift (H0 := [intB (List.replicate 4 0)]) [0] rfl ⟨rfl, rfl, trivial⟩ rfl (decode4V w0 (ys := List.replicate 4 0) (n := 4) (k := k) (i := i) rfl (by omega) (by omega) hi) ?_
    rintro _ _ ⟨rfl, rfl⟩
    conv => whnf
    refine Or.inl ⟨rfl, ?_⟩
    rw [setAll_all]
    rfl
  have g4 : n ≠ 4 := beq_f g
  conv => whnf
  refine Or.inl ?_
  conv => whnf
  refine Or.inl ?_
  conv => whnf
  refine ⟨fun g => absurd (show 128 < k from gt_t g) (by omega), fun _ => ?_⟩
  conv => whnf
  rw [nadd k 2, nwrapi (n := k + 2) (by omega)]
  refine ⟨by omega, Or.inr ⟨by omega, rfl, by omega, Int, encI .u32, [], List.replicate (k + 2) 0, fun _ => rfl, by rw [List.length_replicate]; rfl, ?_, ?_⟩⟩
  · rw [flat_rep32]
    show _ = (List.replicate 130 (CV.val (.int .u32 ((0 : Nat) : Int)))).take ((k + 2) * 1)
    rw [List.take_replicate, Nat.mul_one, Nat.min_eq_left (by omega)]
  conv => whnf
  rw [tabl_zero (k + 2)]
  refine Or.inl ?_
  conv => whnf
  refine ⟨fun _ => ?_, (fun h => by cases h)⟩
  conv => whnf
  refine CallsA.lift (H0 := [rowT 101 (k + 2) fun _ => 0]) [4] rfl ⟨rfl, rfl, trivial⟩ rfl (urowIntoW w0 (T := 101) (n := n) (m := k + 2) (by omega) (by omega) (by omega) (by omega)) ?_
  rintro _ _ ⟨rfl, rfl⟩
  obtain ⟨m, rfl⟩ : ∃ m, n = m + 1 := ⟨n - 1, by omega⟩
  rw [Nat.add_sub_cancel]
  have hvu := vv_uu m k
  have g1 : (tabl (k + 2) (um m))[k]? = some ((uu m k : Nat) : Int) := by rw [tabl_get (by omega), um_uu hv (by omega)]
  have g5 : (tabl (k + 2) (um m))[k + 1]? = some ((uu m (k + 1) : Nat) : Int) := by rw [tabl_get (by omega), um_uu hv (by omega)]
  conv => whnf
  refine ⟨by omega, ?_⟩
  conv => whnf
  refine ⟨_, g1, ?_⟩
  conv => whnf
  rw [nadd k 1, nwrapi (n := k + 1) (by omega)]
  refine ⟨by omega, ?_⟩
  conv => whnf
  refine ⟨_, g5, ?_⟩
  conv => whnf
  rw [nadd (uu m k) (uu m (k + 1)), ← hvu, nwrap32 hv]
  refine CallsA.lift (H0 := d.H) [1, 2] rfl ⟨rfl, rfl, rfl, rfl, trivial⟩ rfl hu ?_
  rintro _ _ ⟨rfl, rfl⟩
  conv => whnf
  have hcd := cwrsDecodeW w0 (T := 101) (n := m + 1) (k0 := k) (i0 := i) (by omega) hn2 hk2 hi hv
  rw [Nat.add_sub_cancel] at hcd
  refine CallsA.lift (H0 := [intB (List.replicate (m + 1) 0), rowT 101 (k + 2) (um m)]) [0, 4] rfl ⟨rfl, rfl, rfl, rfl, trivial⟩ rfl hcd ?_
  rintro _ _ ⟨rfl, f, rfl⟩
  conv => whnf
  exact Or.inr ⟨[0, 1, 2], .t [], intB (vecOf (m + 1) k i) :: (d'.H.map (Blk.ren [1, 2])), ⟨rfl, ⟨rfl, rfl, rfl, rfl, rfl, rfl, trivial⟩, rfl⟩, rfl, rfl, rfl⟩
theorem cPulseVectorW (w0 : World) {d : Dec} {N n k : Nat} (h : d.inv N) (hN : N ≤ 1152921504606846900) (hn : 2 ≤ n) (hn2 : n ≤ 20) (hk : 1 ≤ k) (hk2 : k ≤ 20) (hv : vv n k < 4294967296) (hv2 : 2 ≤ vv n k) (hi : (d.whole (vv n k)).1 < vv n k) :
    CallsA Tryd.prog w0 26 [.c (.val (.int .i64 n)), .c (.val (.int .i64 k)), .c (.ptr 0 0)] d.H fun r H => r = .o (.c (.vec 2 n)) ∧ H = (d.whole (vv n k)).2.2.H ++ [intB (vecOf n k (d.whole (vv n k)).1)] := by
  have hd := decodePulsesW w0 h hN hn hn2 hk hk2 hv hv2 hi
  obtain ⟨i, hii⟩ : ∃ i, i = (d.whole (vv n k)).1 := ⟨_, rfl⟩
  obtain ⟨d', hd'⟩ : ∃ d', d' = (d.whole (vv n k)).2.2 := ⟨_, rfl⟩
  rw [← hii, ← hd'] at hd ⊢
  refine callsA_of_ev c26_ ?_
  conv => whnf
  refine ⟨⟨by omega, by omega, by omega, by omega, by omega⟩, Int, encI .i64, [], 0, fun _ => rfl, rfl, ?_⟩
  conv => whnf
  refine CallsA.lift (H0 := intB (List.replicate n 0) :: (d.H.map (Blk.ren [1, 2]))) [2, 0, 1] rfl ⟨rfl, rfl, rfl, rfl, rfl, rfl, trivial⟩ rfl hd ?_
  rintro _ _ ⟨rfl, rfl⟩
  conv => whnf
  exact Or.inl ⟨rfl, rfl⟩
end Go.Proofs.YtkomikpfnogjcaaDoor
