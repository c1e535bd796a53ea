/- The package takes a packet apart: frames of lengths of their own. -/
import Derived.Test.YtknfakehijoogaaDoorPkE
namespace Go.Proofs.YtknfakehijoogaaDoor
open Go Go.Vc
set_option maxRecDepth 100000
set_option maxHeartbeats 8000000

theorem flens_succ (b : ByteArray) (e p k : Nat) : flens b e p (k + 1) = match flens b e p k with
    | none => none
    | some (l, q) => match flen b e q with
      | none => none
      | some (n, r) => some (l ++ [n], q + r) := rfl
theorem flens_none {b : ByteArray} {e p j : Nat} (h : flens b e p j = none) : ∀ k, j ≤ k → flens b e p k = none
  | 0, hk => by
    obtain rfl : j = 0 := by omega
    exact h
  | k + 1, hk => by
    rcases Nat.lt_or_ge j (k + 1) with c | c
    · rw [flens_succ, flens_none h k (by omega)]
    · obtain rfl : j = k + 1 := by omega
      exact h
theorem flens_bounds {b : ByteArray} {e p : Nat} (hp : p ≤ e) : ∀ {j : Nat} {l : List Nat} {q : Nat}, flens b e p j = some (l, q) → l.length = j ∧ p ≤ q ∧ q ≤ e ∧ ∀ n ∈ l, n ≤ 1275
  | 0, l, q, h => by
    cases h
    exact ⟨rfl, Nat.le_refl _, hp, fun n hn => by cases hn⟩
  | j + 1, l, q, h => by
    rw [flens_succ] at h
    cases h1 : flens b e p j with
    | none => rw [h1] at h; cases h
    | some x =>
      obtain ⟨l', q'⟩ := x
      rw [h1] at h
      simp only at h
      obtain ⟨a1, a2, a3, a4⟩ := flens_bounds hp h1
      cases h2 : flen b e q' with
      | none => rw [h2] at h; cases h
      | some y =>
        obtain ⟨n, r⟩ := y
        rw [h2] at h
        cases h
        obtain ⟨c1, c2, c3⟩ := flen_bounds h2
        refine ⟨by rw [List.length_append, a1]; rfl, by omega, c2, fun x hx => ?_⟩
        rcases List.mem_append.1 hx with hx | hx
        · exact a4 x hx
        · rw [List.mem_singleton.1 hx]
          exact c3
theorem total_fold (l : List Nat) : ∀ r : Nat, l.foldl (· + ·) r = r + total l := by
  induction l with
  | nil => intro r; rfl
  | cons x t ih =>
    intro r
    unfold total
    rw [List.foldl_cons, List.foldl_cons, ih, ih]
    omega
theorem total_snoc (l : List Nat) (n : Nat) : total (l ++ [n]) = total l + n := by
  unfold total
  rw [List.foldl_append]
  rfl
theorem total_cons (n : Nat) (l : List Nat) : total (n :: l) = n + total l := by
  show (n :: l).foldl _ 0 = _
  rw [List.foldl_cons, total_fold]
  omega
theorem total_take {l : List Nat} : ∀ i, total (l.take i) ≤ total l := by
  intro i
  have : total l = total (l.take i) + total (l.drop i) := by
    conv => lhs; rw [← List.take_append_drop i l]
    unfold total
    rw [List.foldl_append, total_fold]
    rfl
  omega
theorem cuts_snoc (p : Nat) (l : List Nat) (n : Nat) : cuts p (l ++ [n]) = cuts p l ++ [(p + total l, n)] := by
  induction l generalizing p with
  | nil => rfl
  | cons x t ih =>
    show (p, x) :: cuts (p + x) (t ++ [n]) = (p, x) :: cuts (p + x) t ++ _
    rw [ih, total_cons]
    show _ = (p, x) :: (cuts (p + x) t ++ _)
    rw [Nat.add_assoc]
theorem cuts_len (p : Nat) (l : List Nat) : (cuts p l).length = l.length := by
  induction l generalizing p with
  | nil => rfl
  | cons x t ih => exact congrArg (· + 1) (ih _)
def lenB (l : List Nat) : Blk := .vec true 3 (encI .i64) [] 1 (l.map fun (n : Nat) => (n : Int))

theorem pVBRW {w0 : World} (he : errAt w0 1) {b : ByteArray} (hs : b.size ≤ 100000) {p e m : Nat} (hp0 : 1 ≤ p) (hp : p ≤ e) (hb : e ≤ b.size) (hm : 1 ≤ m) (hm2 : m < 64) :
    CallsA Tryd.prog w0 79 [.c (.vec 0 b.size), .c (.val (.int .i64 p)), .c (.val (.int .i64 e)), .c (.val (.int .u8 m))] [bytB b] (okR b (match flens b e p (m - 1) with
      | none => none
      | some (l, q) => if e - q < total l then none else if 1275 < e - q - total l then none else some (cuts q (l ++ [e - q - total l])))) := by
  have hlen := fun o m c h => pLenW he (b := b) (o := o) (m := m) (c := c) h
  obtain ⟨te, ue, he⟩ := he
  obtain ⟨F, hF⟩ : ∃ F, F = (match flens b e p (m - 1) with
      | none => none
      | some (l, q) => if e - q < total l then none else if 1275 < e - q - total l then none else some (cuts q (l ++ [e - q - total l]))) := ⟨_, rfl⟩
  rw [← hF]
  refine callsA_of_ev c79_ ?_
  conv => whnf
  refine ⟨⟨by omega, by omega, by omega, by omega, by omega⟩, Int, encI .i64, [], 0, fun _ => rfl, rfl, ?_⟩
  conv => whnf
  refine Or.inl ?_
  conv => whnf
  rw [nwrapi (n := m) (by omega), nsub (a := m) (b := 1) (by omega), nwrapi (n := m - 1) (by omega)]
  refine ⟨{x : Nat × List Nat × Nat // x.1 ≤ m - 1 ∧ flens b e p x.1 = some x.2}, fun ⟨(j, l, q), _⟩ => ⟨[(0, .o (.c (.vec 0 b.size))), (1, .o (.c (.val (.int .i64 q)))), (2, .o (.c (.val (.int .i64 e)))), (3, .o (.c (.val (.int .u8 m)))), (10, .o (.c (.vec 1 l.length))), (22, .o (.c (.val (.int .i64 ((m - 1 : Nat) : Int))))), (23, .o (.c (.val (.int .i64 j))))], [bytB b, lenB l]⟩, fun x => m - x.1.1, ⟨⟨(0, [], p), Nat.zero_le _, rfl⟩, [0, 1], ⟨rfl, ⟨rfl, rfl, rfl, rfl, trivial⟩, rfl⟩, rfl, rfl, rfl, rfl, rfl, rfl, rfl, trivial⟩, fun ⟨(j, l, q), hj, hf⟩ => ?_⟩
  simp only at hj hf
  obtain ⟨hll, hpq, hqe, hl9⟩ := flens_bounds hp hf
  conv => whnf
  refine ⟨fun h3 => ?_, fun h3 => ?_⟩
  · have h3 : j < m - 1 := lt_t h3
    have hstep := flens_succ b e p j
    rw [hf] at hstep
    simp only at hstep
    conv => whnf
    refine Or.inl ?_
    conv => whnf
    refine ⟨⟨by omega, by omega, by omega⟩, Or.inl ⟨fun ca g3 g4 => ?_, fun g3 => ?_, fun g3 g4 => absurd g4 (by omega)⟩⟩
    · conv => whnf
      have hl := hlen q (e - q) (ca - q) (by omega)
      rw [show q + (e - q) = e by omega] at hl
      refine CallsA.lift (H0 := [bytB b]) [0] rfl ⟨rfl, rfl, trivial⟩ rfl hl ?_
      rintro _ _ ⟨rfl, ⟨hn, t, u, rfl⟩ | ⟨n, k, hn, rfl⟩⟩
      · rw [hn] at hstep
        have hN := flens_none hstep (m - 1) (by omega)
        rw [hN] at hF
        conv => whnf
        refine Or.inl ?_
        conv => whnf
        refine ⟨fun _ => ?_, (fun h => by cases h)⟩
        conv => whnf
        exact Or.inr ⟨[0], .t [.c (.val (.slice none 0 0)), .c (.val (.iface t u))], [bytB b], ⟨rfl, ⟨rfl, rfl, trivial⟩, rfl⟩, rfl, .inl ⟨hF, ⟨t, u, rfl⟩, rfl⟩⟩
      · rw [hn] at hstep
        obtain ⟨k1, k2, k3⟩ := flen_bounds hn
        conv => whnf
        refine Or.inl ?_
        conv => whnf
        refine ⟨(fun h => by cases h), fun _ => ?_⟩
        conv => whnf
        refine ⟨by rw [List.length_map], [(n : Int)], ⟨rfl, rfl, rfl⟩, by rw [List.length_append, List.length_singleton, List.length_map]; omega, by rw [List.length_append, List.length_singleton, List.length_map]; omega, ?_⟩
        conv => whnf
        refine ⟨⟨(j + 1, l ++ [n], q + k), h3, hstep⟩, ⟨[0, 3], ⟨rfl, ⟨rfl, rfl, ?_, rfl, trivial⟩, rfl⟩, rfl, eq_i64 ?_, rfl, rfl, ?_, rfl, eq_i64 ?_, trivial⟩, ?_⟩
        · show some (Blk.vec true 3 (encI .i64) [] 1 (l.map (fun (n : Nat) => (n : Int)) ++ [(n : Int)])) = some (Blk.vec true 3 (encI .i64) [] 1 ((l ++ [n]).map fun (n : Nat) => (n : Int)))
          rw [List.map_append]
          rfl
        · rw [nadd, nwrapi (by omega)]
        · show some (AV.o (A1.c (CV.vec 3 (l.map (fun (n : Nat) => (n : Int)) ++ [(n : Int)]).length))) = some (AV.o (A1.c (CV.vec 3 (l ++ [n]).length)))
          rw [List.length_append, List.length_append, List.length_map]
          rfl
        · rw [nadd, nwrapi (by omega)]
        · show m - (j + 1) < m - j
          omega
    · conv => whnf
      have hqs : q = b.size := by omega
      have hl := hlen 0 0 0 (by omega)
      have hf0 : flen b (0 + 0) 0 = none := if_pos (Nat.le_refl _)
      have hn : flen b e q = none := if_pos (by omega)
      rw [hf0] at hl
      rw [hn] at hstep
      have hN := flens_none hstep (m - 1) (by omega)
      refine CallsA.lift (H0 := [bytB b]) [0] rfl ⟨rfl, rfl, trivial⟩ rfl hl ?_
      rintro _ _ ⟨rfl, ⟨_, t, u, rfl⟩ | ⟨n, k, hn, _⟩⟩
      · rw [hN] at hF
        conv => whnf
        refine Or.inl ?_
        conv => whnf
        refine ⟨fun _ => ?_, (fun h => by cases h)⟩
        conv => whnf
        exact Or.inr ⟨[0], .t [.c (.val (.slice none 0 0)), .c (.val (.iface t u))], [bytB b], ⟨rfl, ⟨rfl, rfl, trivial⟩, rfl⟩, rfl, .inl ⟨hF, ⟨t, u, rfl⟩, rfl⟩⟩
      · cases hn
  · have h3 : m - 1 ≤ j := lt_f h3
    obtain rfl : j = m - 1 := by omega
    rw [hf] at hF
    have hF : F = if e - q < total l then none else if 1275 < e - q - total l then none else some (cuts q (l ++ [e - q - total l])) := hF
    have hlen1 : l.length ≤ 62 := by omega
    conv => whnf
    refine ⟨⟨by omega, by omega, by omega, by omega, by omega⟩, Option Fr, encFr, [0], none, encFr_len 0, rfl, ?_⟩
    conv => whnf
    refine Or.inl ?_
    conv => whnf
    refine ⟨{x : Nat × List (Option Fr) // x.1 ≤ l.length ∧ rowsAre b x.2 (cuts q (l.take x.1)) ∧ q + total (l.take x.1) ≤ e}, fun ⟨(i, xs), _⟩ => ⟨[(0, .o (.c (.vec 0 b.size))), (1, .o (.c (.val (.int .i64 ((q + total (l.take i) : Nat) : Int))))), (2, .o (.c (.val (.int .i64 e)))), (14, .o (.c (.vec 2 xs.length))), (47, .o (.c (.vec 1 l.length))), (48, .o (.c (.val (.int .i64 l.length)))), (49, .o (.c (.val (.int .i64 i))))], [bytB b, lenB l, frB xs]⟩, fun x => l.length - x.1.1, ⟨⟨(0, []), Nat.zero_le _, rows_none, by show q + 0 ≤ e; omega⟩, [0, 1, 2], ⟨rfl, ⟨rfl, rfl, rfl, rfl, rfl, rfl, trivial⟩, rfl⟩, rfl, rfl, rfl, rfl, rfl, rfl, rfl, trivial⟩, fun ⟨(i, xs), hi, hx, hte⟩ => ?_⟩
    simp only at hi hx hte
    have hxl : xs.length = i := by
      rw [hx.1, cuts_len, List.length_take]
      omega
    conv => whnf
    refine ⟨fun h4 => ?_, fun h4 => ?_⟩
    · have h4 : i < l.length := lt_t h4
      obtain ⟨n, hn⟩ : ∃ n, l[i]? = some n := ⟨_, List.getElem?_eq_getElem h4⟩
      have hn9 := hl9 n (List.mem_of_getElem? hn)
      have hts : total (l.take (i + 1)) = total (l.take i) + n := by rw [← take_snoc' hn, total_snoc]
      have hcs : cuts q (l.take (i + 1)) = cuts q (l.take i) ++ [(q + total (l.take i), n)] := by rw [← take_snoc' hn, cuts_snoc]
      have htl := total_take (l := l) (i + 1)
      have hn' : (l.map (fun (n : Nat) => (n : Int)))[i]? = some (n : Int) := by rw [List.getElem?_map, hn]; rfl
      conv => whnf
      refine Or.inl ?_
      conv => whnf
      refine ⟨by omega, ?_⟩
      conv => whnf
      refine ⟨_, hn', ?_⟩
      conv => whnf
      refine Or.inl ?_
      conv => whnf
      rw [nadd (q + total (l.take i)) n, nwrapi (n := q + total (l.take i) + n) (by omega)]
      refine ⟨fun c1 => ?_, fun c1 => ?_⟩
      · have c1 : e < q + total (l.take i) + n := gt_t c1
        conv => whnf
        refine ⟨.iface te ue, he, rfl, ?_⟩
        conv => whnf
        exact Or.inr ⟨[0], .t [.c (.val (.slice none 0 0)), .c (.val (.iface te ue))], [bytB b], ⟨rfl, ⟨rfl, rfl, trivial⟩, rfl⟩, rfl, .inl ⟨by rw [hF, if_pos (by omega)], ⟨te, ue, rfl⟩, rfl⟩⟩
      have c1 : q + total (l.take i) + n ≤ e := gt_f c1
      conv => whnf
      rw [nadd (q + total (l.take i)) n, nwrapi (n := q + total (l.take i) + n) (by omega)]
      refine ⟨⟨by omega, by omega, by omega⟩, Or.inl ⟨fun ca g3 g4 => ?_, fun g3 => ?_, fun g3 g4 => absurd g4 (by omega)⟩⟩
      all_goals
        conv => whnf
        refine ⟨rfl, [some (_, _, _)], ⟨rfl, rfl, rfl⟩, by rw [List.length_append, List.length_singleton]; omega, by rw [List.length_append, List.length_singleton]; omega, ?_⟩
        conv => whnf
        refine ⟨⟨(i + 1, xs ++ [some (_, _, _)]), h4, ?_, by show q + total (l.take (i + 1)) ≤ e; omega⟩, ⟨[0, 1, 4], ⟨rfl, ⟨rfl, rfl, rfl, rfl, rfl, rfl, trivial⟩, rfl⟩, rfl, eq_i64 ?_, rfl, rfl, rfl, rfl, eq_i64 ?_, trivial⟩, ?_⟩
        · rw [hcs]
          refine rows_snoc hx ?_
          first | exact rowIs_to (by omega) (by omega) (by omega) (by omega) | exact rowIs_nil (by omega) (by omega)
        · rw [nadd (q + total (l.take i)) n, nwrapi (n := q + total (l.take i) + n) (by omega), hts]
          omega
        · rw [nadd, nwrapi (by omega)]
        · show l.length - (i + 1) < l.length - i
          omega
    · have h4 : l.length ≤ i := lt_f h4
      obtain rfl : i = l.length := by omega
      rw [List.take_length] at hx hte
      have hlt : e - q - total l = e - (q + total l) := by omega
      have hF : F = if 1275 < e - (q + total l) then none else some (cuts q l ++ [(q + total l, e - (q + total l))]) := by
        rw [hF, if_neg (by omega), hlt, cuts_snoc]
      conv => whnf
      rw [List.take_length]
      have htl2 : total l ≤ e := by omega
      generalize total l = tl at *
      rw [nsub (a := e) (b := q + tl) hte, nwrapi (n := e - (q + tl)) (by omega)]
      refine Or.inl ?_
      conv => whnf
      refine ⟨fun h => absurd (lt_t h) (by omega), fun _ => ?_⟩
      conv => whnf
      refine Or.inl ?_
      conv => whnf
      refine ⟨fun c1 => ?_, fun c1 => ?_⟩
      · have c1 : 1275 < e - (q + tl) := gt_t c1
        conv => whnf
        refine ⟨.iface te ue, he, rfl, ?_⟩
        conv => whnf
        exact Or.inr ⟨[0], .t [.c (.val (.slice none 0 0)), .c (.val (.iface te ue))], [bytB b], ⟨rfl, ⟨rfl, rfl, trivial⟩, rfl⟩, rfl, .inl ⟨by rw [hF, if_pos c1], ⟨te, ue, rfl⟩, rfl⟩⟩
      have c1 : e - (q + tl) ≤ 1275 := gt_f c1
      rw [if_neg (by omega)] at hF
      conv => whnf
      refine ⟨⟨by omega, by omega, by omega⟩, Or.inl ⟨fun ca g3 g4 => ?_, fun g3 => ?_, fun g3 g4 => absurd g4 (by omega)⟩⟩
      all_goals
        conv => whnf
        refine ⟨rfl, [some (_, _, _)], ⟨rfl, rfl, rfl⟩, by rw [List.length_append, List.length_singleton]; omega, by rw [List.length_append, List.length_singleton]; omega, ?_⟩
        conv => whnf
        refine Or.inr ⟨[0, 4], .t [.c (.vec 1 (xs ++ [some (_, _, _)]).length), .c (.val .nilIface)], [bytB b, frB (xs ++ [some (_, _, _)])], ⟨rfl, ⟨rfl, rfl, rfl, rfl, trivial⟩, rfl⟩, rfl, .inr ⟨xs ++ [some (_, _, _)], _, _, hF, by simp, rows_snoc hx ?_, rfl, rfl, rfl⟩⟩
        first | exact rowIs_to (by omega) (by omega) (by omega) (by omega) | exact rowIs_nil (by omega) (by omega)
end Go.Proofs.YtknfakehijoogaaDoor
