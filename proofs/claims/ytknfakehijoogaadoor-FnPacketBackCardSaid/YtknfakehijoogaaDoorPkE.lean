/- The package takes a packet apart: padding, frames of one length. -/
import Derived.Test.YtknfakehijoogaaDoorPkD
namespace Go.Proofs.YtknfakehijoogaaDoor
open Go Go.Vc
set_option maxRecDepth 100000
set_option maxHeartbeats 8000000

theorem pads_ge {b : ByteArray} : ∀ {f k k' : Nat}, pads b f k = some k' → k ≤ k' ∧ (byt b (2 + k) = 255 → k < k') ∧ 2 + k' < b.size
  | 0, k, k', h => by cases h
  | f + 1, k, k', h => by
    unfold pads at h
    split at h
    · cases h
    split at h
    · rename_i h1 h2
      obtain ⟨a, _, c⟩ := pads_ge h
      exact ⟨by omega, fun _ => by omega, c⟩
    · rename_i h1 h2
      cases h
      exact ⟨Nat.le_refl _, fun h3 => absurd h3 h2, by omega⟩
theorem padded_of {b : ByteArray} {k : Nat} (h : pads b b.size 0 = pads b (b.size - k) k) : padded b = match pads b (b.size - k) k with
  | none => none
  | some k => if b.size - (3 + k) < 254 * k + byt b (2 + k) then none else some (3 + k, b.size - (254 * k + byt b (2 + k))) := by
  unfold padded
  rw [h]
  rfl
theorem pPadW {w0 : World} (he : errAt w0 1) {b : ByteArray} (h : 2 ≤ b.size) (hs : b.size ≤ 100000) :
    CallsA Tryd.prog w0 77 [.c (.vec 0 b.size), .c (.val (.int .i64 ((2 : Nat) : Int)))] [bytB b] fun r H => H = [bytB b] ∧ ((padded b = none ∧ errR r [.c (.val (.int .i64 ((0 : Nat) : Int))), .c (.val (.int .i64 ((0 : Nat) : Int)))]) ∨
      ∃ p e, padded b = some (p, e) ∧ r = .t [.c (.val (.int .i64 p)), .c (.val (.int .i64 e)), .c (.val .nilIface)]) := by
  obtain ⟨te, ue, he⟩ := he
  refine callsA_of_ev c77_ ?_
  conv => whnf
  refine Or.inl ?_
  conv => whnf
  refine ⟨{k : Nat // pads b b.size 0 = pads b (b.size - k) k ∧ 255 * k + 2 ≤ b.size}, fun ⟨k, _⟩ => ⟨[(0, .o (.c (.vec 0 b.size))), (1, .o (.c (.val (.int .i64 ((2 + k : Nat) : Int))))), (7, .o (.c (.val (.int .i64 ((b.size - 2 - 255 * k : Nat) : Int)))))], [bytB b]⟩, fun k => b.size - k.1, ⟨⟨0, rfl, by omega⟩, [0], ⟨rfl, ⟨rfl, rfl, trivial⟩, rfl⟩, rfl, rfl, eq_i64 (by rw [nsub (by omega), nwrapi (by omega)]; omega), trivial⟩, fun ⟨k, hk, hkb⟩ => ?_⟩
  have hpd := padded_of hk
  have hge := fun k' => pads_ge (b := b) (f := b.size - k) (k := k) (k' := k')
  have hnone : (∀ k', pads b (b.size - k) k = some k' → b.size - (3 + k') < 254 * k' + byt b (2 + k')) → padded b = none := by
    intro hx
    rw [hpd]
    cases hp : pads b (b.size - k) k with
    | none => rfl
    | some k' => exact if_pos (hx k' hp)
  conv => whnf
  refine Or.inl ?_
  conv => whnf
  refine ⟨fun c1 => ?_, fun c1 => ?_⟩
  · have c1 : b.size - 2 - 255 * k ≤ 0 := le_t c1
    conv => whnf
    refine ⟨.iface te ue, he, rfl, ?_⟩
    conv => whnf
    refine Or.inl ⟨rfl, .inl ⟨hnone fun k' hk' => ?_, te, ue, rfl⟩⟩
    obtain ⟨g1, _, g3⟩ := hge k' hk'
    omega
  have c1 : 0 < b.size - 2 - 255 * k := le_f c1
  have hb := byt_vec (b := b) (i := 2 + k) (by omega)
  have hlt := byt_lt b (2 + k)
  have hun : pads b (b.size - k) k = if byt b (2 + k) = 255 then pads b (b.size - (k + 1)) (k + 1) else some k := by
    rw [show b.size - k = (b.size - (k + 1)) + 1 by omega]
    show (if b.size ≤ 2 + k then none else _) = _
    rw [if_neg (by omega)]
  conv => whnf
  refine ⟨by omega, ?_⟩
  conv => whnf
  refine ⟨_, hb, ?_⟩
  conv => whnf
  rw [nwrapi (n := byt b (2 + k)) (by omega), nadd, nwrapi (n := 2 + k + 1) (by omega), nsub (a := b.size - 2 - 255 * k) (b := 1) (by omega), nwrapi (n := b.size - 2 - 255 * k - 1) (by omega)]
  refine Or.inl ?_
  conv => whnf
  refine ⟨fun c2 => ?_, fun c2 => ?_⟩
  · have c2 : byt b (2 + k) = 255 := beq_t c2
    rw [if_pos c2] at hun
    conv => whnf
    refine Or.inl ?_
    conv => whnf
    refine ⟨fun c3 => ?_, fun c3 => ?_⟩
    · have c3 : b.size - 2 - 255 * k - 1 < 254 := gt_t c3
      conv => whnf
      refine ⟨.iface te ue, he, rfl, ?_⟩
      conv => whnf
      refine Or.inl ⟨rfl, .inl ⟨hnone fun k' hk' => ?_, te, ue, rfl⟩⟩
      obtain ⟨g1, g2, g3⟩ := hge k' hk'
      have := g2 c2
      omega
    have c3 : 254 ≤ b.size - 2 - 255 * k - 1 := gt_f c3
    conv => whnf
    rw [nsub (a := b.size - 2 - 255 * k - 1) (b := 254) (by omega), nwrapi (n := b.size - 2 - 255 * k - 1 - 254) (by omega)]
    refine Or.inl ?_
    conv => whnf
    refine ⟨fun _ => ?_, fun h => absurd c2 (beq_f h)⟩
    conv => whnf
    refine ⟨⟨k + 1, hk.trans hun, by omega⟩, ⟨[0], ⟨rfl, ⟨rfl, rfl, trivial⟩, rfl⟩, rfl, rfl, eq_i64 (by omega), trivial⟩, ?_⟩
    show b.size - (k + 1) < b.size - k
    omega
  have c2 : byt b (2 + k) ≠ 255 := beq_f c2
  rw [if_neg c2] at hun
  rw [hun] at hpd
  conv => whnf
  refine Or.inl ?_
  conv => whnf
  refine ⟨fun c3 => ?_, fun c3 => ?_⟩
  · have c3 : b.size - 2 - 255 * k - 1 < byt b (2 + k) := gt_t c3
    conv => whnf
    refine ⟨.iface te ue, he, rfl, ?_⟩
    conv => whnf
    exact Or.inl ⟨rfl, .inl ⟨by rw [hpd]; exact if_pos (by omega), te, ue, rfl⟩⟩
  have c3 : byt b (2 + k) ≤ b.size - 2 - 255 * k - 1 := gt_f c3
  conv => whnf
  rw [nsub (a := b.size - 2 - 255 * k - 1) (b := byt b (2 + k)) (by omega), nwrapi (n := b.size - 2 - 255 * k - 1 - byt b (2 + k)) (by omega)]
  refine Or.inl ?_
  conv => whnf
  refine ⟨fun h => absurd (beq_t h) c2, fun _ => ?_⟩
  conv => whnf
  refine Or.inl ⟨rfl, .inr ⟨3 + k, b.size - (254 * k + byt b (2 + k)), by rw [hpd]; exact if_neg (by omega), ?_⟩⟩
  rw [nadd, nwrapi (n := 2 + k + 1 + (b.size - 2 - 255 * k - 1 - byt b (2 + k))) (by omega), show 2 + k + 1 + (b.size - 2 - 255 * k - 1 - byt b (2 + k)) = b.size - (254 * k + byt b (2 + k)) by omega, show 2 + k + 1 = 3 + k by omega]
  rfl

theorem rows_snoc {b : ByteArray} {xs : List (Option Fr)} {l : List (Nat × Nat)} {x : Option Fr} {p n : Nat} (h : rowsAre b xs l) (hx : rowIs b x p n) : rowsAre b (xs ++ [x]) (l ++ [(p, n)]) := by
  obtain ⟨h1, h2⟩ := h
  refine ⟨by rw [List.length_append, List.length_append, h1]; rfl, fun i q m hi => ?_⟩
  rcases Nat.lt_or_ge i l.length with c | c
  · rw [List.getElem?_append_left c] at hi
    obtain ⟨y, hy, hr⟩ := h2 i q m hi
    exact ⟨y, by rw [List.getElem?_append_left (by omega)]; exact hy, hr⟩
  · rw [List.getElem?_append_right c] at hi
    have h0 : i - l.length = 0 := by
      rcases Nat.eq_zero_or_pos (i - l.length) with h | h
      · exact h
      · rw [List.getElem?_eq_none (by show 1 ≤ i - l.length; omega)] at hi
        cases hi
    rw [h0] at hi
    cases hi
    exact ⟨x, by rw [List.getElem?_append_right (by omega), h1, h0]; rfl, hx⟩
theorem rows_none {b : ByteArray} : rowsAre b [] [] := ⟨rfl, fun i p n h => by cases i <;> cases h⟩
theorem evenly_take {p n m j : Nat} (h : j ≤ m) : (evenly p n m).take j = evenly p n j := by
  unfold evenly
  rw [← List.map_take, List.take_range, Nat.min_eq_left h]
theorem evenly_snoc (p n j : Nat) : evenly p n (j + 1) = evenly p n j ++ [(p + j * n, n)] := by
  unfold evenly
  rw [List.range_succ, List.map_append]
  rfl
def frB (xs : List (Option Fr)) : Blk := .vec true 43 encFr [0] 1 xs

theorem pCBRW {w0 : World} (he : errAt w0 1) {b : ByteArray} (hs : b.size ≤ 100000) {p e m : Nat} (hp0 : 1 ≤ p) (hp : p ≤ e) (hb : e ≤ b.size) (hm : 1 ≤ m) (hm2 : m < 64) :
    CallsA Tryd.prog w0 78 [.c (.vec 0 b.size), .c (.val (.int .i64 p)), .c (.val (.int .i64 e)), .c (.val (.int .u8 m))] [bytB b] (okR b (if (e - p) % m ≠ 0 then none else if 1275 < (e - p) / m then none else some (evenly p ((e - p) / m) m))) := by
  obtain ⟨te, ue, he⟩ := he
  have hdm := Nat.div_mul_le_self (e - p) m
  have hdl := Nat.div_le_self (e - p) m
  refine callsA_of_ev c78_ ?_
  conv => whnf
  refine Or.inl ?_
  conv => whnf
  rw [nsub (a := e) (b := p) hp, nwrapi (n := e - p) (by omega), nwrapi (n := m) (by omega)]
  refine ⟨by omega, ?_⟩
  conv => whnf
  rw [ntmod]
  refine ⟨fun c1 => ?_, fun c1 => ?_⟩
  · have c1 : (e - p) % m ≠ 0 := bne_t c1
    conv => whnf
    refine ⟨.iface te ue, he, rfl, ?_⟩
    conv => whnf
    exact Or.inl (.inl ⟨if_pos c1, ⟨te, ue, rfl⟩, rfl⟩)
  have c1 : (e - p) % m = 0 := bne_f c1
  rw [if_neg (fun h => h c1)]
  conv => whnf
  rw [nwrapi (n := m) (by omega)]
  refine ⟨by omega, ?_⟩
  conv => whnf
  refine Or.inl ?_
  conv => whnf
  rw [ntdiv, nwrapi (n := (e - p) / m) (by omega)]
  refine ⟨fun c2 => ?_, fun c2 => ?_⟩
  · have c2 : 1275 < (e - p) / m := gt_t c2
    conv => whnf
    refine ⟨.iface te ue, he, rfl, ?_⟩
    conv => whnf
    exact Or.inl (.inl ⟨if_pos c2, ⟨te, ue, rfl⟩, rfl⟩)
  have c2 : (e - p) / m ≤ 1275 := gt_f c2
  rw [if_neg (by omega)]
  generalize (e - p) / m = fs at *
  conv => whnf
  refine ⟨⟨by omega, by omega, by omega, by omega, by omega⟩, Option Fr, encFr, [0], none, encFr_len 0, rfl, ?_⟩
  conv => whnf
  refine Or.inl ?_
  conv => whnf
  rw [nwrapi (n := m) (by omega)]
  refine ⟨{q : Nat × List (Option Fr) // q.1 ≤ m ∧ rowsAre b q.2 (evenly p fs q.1)}, fun ⟨(j, xs), _⟩ => ⟨[(0, .o (.c (.vec 0 b.size))), (1, .o (.c (.val (.int .i64 ((p + j * fs : Nat) : Int))))), (11, .o (.c (.val (.int .i64 fs)))), (12, .o (.c (.vec 1 xs.length))), (32, .o (.c (.val (.int .i64 m)))), (33, .o (.c (.val (.int .i64 j))))], [bytB b, frB xs]⟩, fun q => m - q.1.1, ⟨⟨(0, []), Nat.zero_le _, rows_none⟩, [0, 1], ⟨rfl, ⟨rfl, rfl, rfl, rfl, trivial⟩, rfl⟩, rfl, eq_i64 (by omega), rfl, rfl, rfl, rfl, trivial⟩, fun ⟨(j, xs), hj, hx⟩ => ?_⟩
  simp only at hj hx
  conv => whnf
  refine ⟨fun h3 => ?_, fun h3 => ?_⟩
  · have h3 : j < m := lt_t h3
    have hmul : p + j * fs + fs ≤ e := by
      have := Nat.mul_le_mul_right fs (show j + 1 ≤ m by omega)
      rw [Nat.succ_mul, Nat.mul_comm m] at this
      omega
    have hxl : xs.length = j := by
      rw [hx.1]
      unfold evenly
      rw [List.length_map, List.length_range]
    conv => whnf
    rw [nadd (p + j * fs) fs, nwrapi (n := p + j * fs + fs) (by omega)]
    refine ⟨⟨by omega, by omega, by omega⟩, Or.inl ⟨fun ca g3 g4 => ?_, fun g3 => ?_, fun g3 g4 => absurd g4 (by omega)⟩⟩
    all_goals
      conv => whnf
      refine ⟨rfl, [some (_, _, _)], ⟨rfl, rfl, rfl⟩, by rw [List.length_append, List.length_singleton]; omega, by rw [List.length_append, List.length_singleton]; omega, ?_⟩
      conv => whnf
      refine ⟨⟨(j + 1, xs ++ [some (_, _, _)]), h3, ?_⟩, ⟨[0, 3], ⟨rfl, ⟨rfl, rfl, rfl, rfl, trivial⟩, rfl⟩, rfl, eq_i64 ?_, rfl, rfl, rfl, eq_i64 ?_, trivial⟩, ?_⟩
      · rw [evenly_snoc]
        refine rows_snoc hx ?_
        first | exact rowIs_to (by omega) (by omega) (by omega) (by omega) | exact rowIs_nil (by omega) (by omega)
      · rw [nadd (p + j * fs) fs, nwrapi (n := p + j * fs + fs) (by omega), Nat.succ_mul]
        omega
      · rw [nadd, nwrapi (by omega)]
      · show m - (j + 1) < m - j
        omega
  · have h3 : m ≤ j := lt_f h3
    obtain rfl : j = m := by omega
    have hne : xs ≠ [] := by
      intro h
      have h1 := hx.1
      rw [h] at h1
      unfold evenly at h1
      rw [List.length_map, List.length_range, List.length_nil] at h1
      omega
    conv => whnf
    exact Or.inl (.inr ⟨xs, _, _, rfl, hne, hx, rfl, rfl, rfl⟩)
end Go.Proofs.YtknfakehijoogaaDoor
