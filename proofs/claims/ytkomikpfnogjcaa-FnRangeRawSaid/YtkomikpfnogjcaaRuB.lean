/- Raw bits that are written come back whatever symbols stand between them: the law's walk. -/
import Derived.Test.YtkomikpfnogjcaaRuA
namespace Go.Proofs.Ytkomikpfnogjcaa
open Go Go.Vc
set_option maxRecDepth 100000
set_option maxHeartbeats 16000000

theorem opsAt.uni {w0 : World} {v : Value} {l : List OpV} (hv : opsAt w0 v l) : ∃ A c, v = .slice A l.length c ∧ ∀ (i : Nat) (x : OpV), l[i]? = some x → ∃ a, A = some a ∧ x.lies w0 (a.add (i * 6)) ∧ x.fits w0 := by
  rcases hv with ⟨rfl, rfl⟩ | ⟨a, c, rfl, _, _, hb⟩
  · exact ⟨none, 0, rfl, fun i x h => by cases i <;> cases h⟩
  · exact ⟨some a, c, rfl, fun i x h => ⟨a, rfl, hb i x h⟩⟩
def rwSt (vl vr vo : Value) (n m i k : Nat) : List OpV → S
  | [] => ⟨[(0, .o (.c (.val vl))), (1, .o (.c (.val vr))), (7, .o (.c (.val (.slice none 0 0)))), (8, .o (.c (.val (.int .i64 i)))), (9, .o (.c (.val (.int .i64 k)))), (48, .o (.c (.val vo))), (49, .o (.c (.val (.int .i64 n)))), (50, .o (.c (.val (.int .i64 m))))], []⟩
  | b :: bs => ⟨[(0, .o (.c (.val vl))), (1, .o (.c (.val vr))), (7, .o (.c (.vec 0 (b :: bs).length))), (8, .o (.c (.val (.int .i64 i)))), (9, .o (.c (.val (.int .i64 k)))), (48, .o (.c (.val vo))), (49, .o (.c (.val (.int .i64 n)))), (50, .o (.c (.val (.int .i64 m))))], [sopB (b :: bs)]⟩

theorem rawLawW (w0 : World) {v1 v2 v3 : Value} {l rw : List OpV} {n : Nat} (hv : opsAt w0 v1 l) (hv2 : opsAt w0 v2 rw) (hl : l.length ≤ 9223372036854775807) (hr : rw.length ≤ 9223372036854775807)
    (h3 : ∃ C c, v3 = .slice C n c ∧ ∀ i, i < n → ∃ a, C = some a ∧ ∃ b, w0.cell? (a.add i) = some (.bool b)) :
    CallsA Try.prog w0 6 [.c (.val v1), .c (.val v2), .c (.val v3)] [] fun r _ => r = .o (.c (.val (.bool true))) := by
  obtain ⟨C, cc, rfl, hC⟩ := h3
  refine callsA_of_ev c6_ ?_
  conv => whnf
  refine Or.inl ?_
  conv => whnf
  refine (zzFits2W w0 hv hl).mono ?_
  rintro _ _ ⟨b1, rfl, rfl, hl2⟩
  conv => whnf
  refine ⟨fun _ => ?_, fun h1 => ?_⟩
  · conv => whnf
    exact Or.inl rfl
  have hl2 : l.length ≤ 2147483647 := hl2 (by cases b1 <;> first | rfl | cases h1)
  conv => whnf
  refine (zzFits2W w0 hv2 hr).mono ?_
  rintro _ _ ⟨b1', rfl, rfl, hr2⟩
  conv => whnf
  refine ⟨fun _ => ?_, fun h1' => ?_⟩
  · conv => whnf
    exact Or.inl rfl
  have hr2 : rw.length ≤ 2147483647 := hr2 (by cases b1' <;> first | rfl | cases h1')
  conv => whnf
  refine ⟨fun _ => ?_, fun hn => ?_⟩
  · conv => whnf
    exact Or.inl rfl
  conv => whnf
  refine Or.inl ?_
  conv => whnf
  refine (scriptH w0 hv 200 hl).mono ?_
  rintro _ _ ⟨b2, rfl, rfl, hs⟩
  conv => whnf
  refine ⟨fun _ => ?_, fun h2 => ?_⟩
  · conv => whnf
    exact Or.inl rfl
  obtain ⟨hl4, hgl⟩ := hs (by cases b2 <;> first | rfl | cases h2)
  conv => whnf
  refine (scriptH w0 hv2 200 hr).mono ?_
  rintro _ _ ⟨b2', rfl, rfl, hs'⟩
  conv => whnf
  refine ⟨fun _ => ?_, fun h2' => ?_⟩
  · conv => whnf
    exact Or.inl rfl
  obtain ⟨hr4, hgr⟩ := hs' (by cases b2' <;> first | rfl | cases h2')
  conv => whnf
  refine ⟨fun _ => ?_, fun hn => ?_⟩
  · conv => whnf
    exact Or.inl rfl
  have hn : n ≤ 400 := gt_f hn
  obtain ⟨A, ca, rfl, hbl⟩ := hv.uni
  obtain ⟨A2, ca2, rfl, hbr⟩ := hv2.uni
  conv => whnf
  refine Or.inl ?_
  conv => whnf
  refine ⟨{p : Nat × Nat × Nat × List OpV // p.1 ≤ n ∧ p.2.1 ≤ l.length ∧ p.2.2.1 ≤ rw.length ∧ p.2.2.2.length ≤ p.1 ∧ ∀ o ∈ p.2.2.2, o.fits w0 ∧ o.wr w0 ∧ o.rd}, fun ⟨(m, i, k, bs), _⟩ => rwSt (.slice A l.length ca) (.slice A2 rw.length ca2) (.slice C n cc) n m i k bs, fun p => n - p.1.1, ⟨⟨(0, 0, 0, []), Nat.zero_le _, Nat.zero_le _, Nat.zero_le _, Nat.le_refl _, (fun o ho => by cases ho)⟩, [], ⟨rfl, trivial, rfl⟩, rfl, rfl, rfl, rfl, rfl, rfl, rfl, rfl, trivial⟩, fun ⟨(m, i, k, bs), hm, hi, hk, hlen, hbs⟩ => ?_⟩
  simp only at hm hi hk hlen hbs
  cases bs with
  | nil =>
    conv => whnf
    refine ⟨fun h3 => ?_, fun h3 => ?_⟩
    · have h3 : m < n := lt_t h3
      obtain ⟨ac, rfl, b, hcb⟩ := hC m h3
      conv => whnf
      refine Or.inl ?_
      conv => whnf
      refine ⟨by omega, ?_⟩
      conv => whnf
      refine ⟨_, by rw [Int.toNat_natCast, Nat.mul_one]; exact hcb, rfl, ?_⟩
      cases b with
      | true =>
        conv => whnf
        refine ⟨fun _ => ?_, (fun h => by cases h)⟩
        conv => whnf
        refine ⟨fun c1 => ?_, fun c1 => ?_⟩
        · have c1 : i < l.length := lt_t c1
          obtain ⟨o, ho⟩ : ∃ o, l[i]? = some o := ⟨_, List.getElem?_eq_getElem (by omega)⟩
          obtain ⟨a, rfl, ⟨x0, x1, x2, x3, x4, x5, x6⟩, hfit⟩ := hbl i o ho
          have hq := hgl o (List.mem_of_getElem? ho)
          conv => whnf
          refine ⟨by omega, ?_⟩
          conv => whnf
          refine ⟨_, x0, rfl, ?_⟩
          conv => whnf
          refine ⟨_, x1, rfl, ?_⟩
          conv => whnf
          refine ⟨_, x2, rfl, ?_⟩
          conv => whnf
          refine ⟨_, x3, rfl, ?_⟩
          conv => whnf
          refine ⟨_, x4, rfl, ?_⟩
          conv => whnf
          refine ⟨_, x5, x6, ?_⟩
          conv => whnf
          refine ⟨by omega, OpV, encOp, [], [o], fun _ => rfl, ⟨rfl, rfl, rfl⟩, by simp only [List.length_cons, List.length_nil]; omega, by simp only [List.length_cons, List.length_nil]; omega, ?_⟩
          conv => whnf
          refine ⟨⟨(m + 1, i + 1, k, [o]), by show m + 1 ≤ n; omega, by show i + 1 ≤ l.length; omega, by show k ≤ rw.length; omega, ?_, ?_⟩, ⟨[1], ⟨rfl, ⟨rfl, rfl, trivial⟩, rfl⟩, rfl, rfl, rfl, eq_i64 (by rw [nadd, nwrapi (by omega)]), rfl, rfl, rfl, eq_i64 (by rw [nadd, nwrapi (by omega)]), trivial⟩, ?_⟩
          · show 1 ≤ m + 1
            omega
          · intro x hx
            rw [List.mem_singleton.1 hx]
            exact ⟨hfit, hq⟩
          · show n - (m + 1) < n - m
            omega
        · conv => whnf
          refine ⟨(fun h => by cases (show (!true) = true from h)), fun _ => ?_⟩
          conv => whnf
          refine ⟨⟨(m + 1, i, k, []), by show m + 1 ≤ n; omega, by show i ≤ l.length; omega, by show k ≤ rw.length; omega, ?_, ?_⟩, ⟨[], ⟨rfl, trivial, rfl⟩, rfl, rfl, rfl, rfl, rfl, rfl, rfl, eq_i64 (by rw [nadd, nwrapi (by omega)]), trivial⟩, ?_⟩
          · exact Nat.le_trans hlen (Nat.le_succ _)
          · exact hbs
          · show n - (m + 1) < n - m
            omega
      | false =>
        conv => whnf
        refine ⟨(fun h => by cases h), fun _ => ?_⟩
        conv => whnf
        refine ⟨fun _ => ?_, (fun h => by cases (show (!false) = false from h))⟩
        conv => whnf
        refine ⟨fun c1 => ?_, fun c1 => ?_⟩
        · have c1 : k < rw.length := lt_t c1
          obtain ⟨o, ho⟩ : ∃ o, rw[k]? = some o := ⟨_, List.getElem?_eq_getElem (by omega)⟩
          obtain ⟨a, rfl, ⟨x0, x1, x2, x3, x4, x5, x6⟩, hfit⟩ := hbr k o ho
          have hq := hgr o (List.mem_of_getElem? ho)
          conv => whnf
          refine ⟨by omega, ?_⟩
          conv => whnf
          refine ⟨_, x0, rfl, ?_⟩
          conv => whnf
          refine ⟨fun c2 => ?_, fun c2 => ?_⟩
          · conv => whnf
            refine ⟨by omega, ?_⟩
            conv => whnf
            refine ⟨_, x0, rfl, ?_⟩
            conv => whnf
            refine ⟨_, x1, rfl, ?_⟩
            conv => whnf
            refine ⟨_, x2, rfl, ?_⟩
            conv => whnf
            refine ⟨_, x3, rfl, ?_⟩
            conv => whnf
            refine ⟨_, x4, rfl, ?_⟩
            conv => whnf
            refine ⟨_, x5, x6, ?_⟩
            conv => whnf
            refine ⟨by omega, OpV, encOp, [], [o], fun _ => rfl, ⟨rfl, rfl, rfl⟩, by simp only [List.length_cons, List.length_nil]; omega, by simp only [List.length_cons, List.length_nil]; omega, ?_⟩
            conv => whnf
            refine ⟨⟨(m + 1, i, k + 1, [o]), by show m + 1 ≤ n; omega, by show i ≤ l.length; omega, by show k + 1 ≤ rw.length; omega, ?_, ?_⟩, ⟨[1], ⟨rfl, ⟨rfl, rfl, trivial⟩, rfl⟩, rfl, rfl, rfl, rfl, eq_i64 (by rw [nadd, nwrapi (by omega)]), rfl, rfl, eq_i64 (by rw [nadd, nwrapi (by omega)]), trivial⟩, ?_⟩
            · show 1 ≤ m + 1
              omega
            · intro x hx
              rw [List.mem_singleton.1 hx]
              exact ⟨hfit, hq⟩
            · show n - (m + 1) < n - m
              omega
          · conv => whnf
            refine ⟨⟨(m + 1, i, k, []), by show m + 1 ≤ n; omega, by show i ≤ l.length; omega, by show k ≤ rw.length; omega, ?_, ?_⟩, ⟨[], ⟨rfl, trivial, rfl⟩, rfl, rfl, rfl, rfl, rfl, rfl, rfl, eq_i64 (by rw [nadd, nwrapi (by omega)]), trivial⟩, ?_⟩
            · exact Nat.le_trans hlen (Nat.le_succ _)
            · exact hbs
            · show n - (m + 1) < n - m
              omega
        · conv => whnf
          refine ⟨⟨(m + 1, i, k, []), by show m + 1 ≤ n; omega, by show i ≤ l.length; omega, by show k ≤ rw.length; omega, ?_, ?_⟩, ⟨[], ⟨rfl, trivial, rfl⟩, rfl, rfl, rfl, rfl, rfl, rfl, rfl, eq_i64 (by rw [nadd, nwrapi (by omega)]), trivial⟩, ?_⟩
          · exact Nat.le_trans hlen (Nat.le_succ _)
          · exact hbs
          · show n - (m + 1) < n - m
            omega
    · conv => whnf
      refine Or.inl ?_
      conv => whnf
      refine (sEncode0 w0 (v := .slice none 0 0) (.inl ⟨rfl, rfl⟩)).mono ?_
      rintro _ _ ⟨rfl, rfl⟩
      conv => whnf
      refine ⟨fun h => absurd h (by decide), fun _ => ?_⟩
      conv => whnf
      refine (opsV w0 (v := .slice none 0 0) (l := []) (.inl ⟨rfl, rfl⟩) (by decide)).mono ?_
      rintro _ _ (⟨_, rfl, rfl⟩ | ⟨h, _⟩)
      · conv => whnf
        refine (encodeW0 w0).mono ?_
        rintro _ _ ⟨rfl, rfl⟩
        rw [done0']
        conv => whnf
        refine CallsA.lift (H0 := []) [] rfl trivial rfl (opsV w0 (v := .slice none 0 0) (l := []) (.inl ⟨rfl, rfl⟩) (by decide)) ?_
        rintro _ _ (⟨_, rfl, rfl⟩ | ⟨h, _⟩)
        · conv => whnf
          refine CallsA.lift (H0 := []) [] rfl trivial rfl (decodeW0 w0 (b := ByteArray.mk #[]) (by decide)) ?_
          rintro _ _ ⟨rfl, rfl⟩
          conv => whnf
          refine Or.inl ?_
          conv => whnf
          refine ⟨fun h => absurd h (by decide), fun _ => ?_⟩
          conv => whnf
          refine ⟨fun h => absurd h (by decide), fun _ => ?_⟩
          conv => whnf
          refine ⟨fun h => absurd h (by decide), fun _ => ?_⟩
          conv => whnf
          refine Or.inl ?_
          conv => whnf
          refine ⟨Unit, fun _ => ⟨[(133, .o (.c (.val (.slice none 0 0)))), (134, .o (.c (.val (.int .i64 ((0 : Nat) : Int))))), (135, .o (.c (.val (.int .i64 ((0 : Nat) : Int)))))], []⟩, fun _ => 0, ⟨(), [], ⟨rfl, trivial, rfl⟩, rfl, rfl, rfl, trivial⟩, fun _ => ?_⟩
          conv => whnf
          refine ⟨fun h => absurd (lt_t h) (by decide), fun _ => ?_⟩
          conv => whnf
          refine CallsA.lift (H0 := []) [] rfl trivial rfl (aliveW w0) ?_
          rintro _ _ ⟨rfl, rfl⟩
          conv => whnf
          exact Or.inl rfl
        · exact absurd rfl h
      · exact absurd rfl h
  | cons b0 bs =>
    conv => whnf
    refine ⟨fun h3 => ?_, fun h3 => ?_⟩
    · have h3 : m < n := lt_t h3
      obtain ⟨ac, rfl, b, hcb⟩ := hC m h3
      conv => whnf
      refine Or.inl ?_
      conv => whnf
      refine ⟨by omega, ?_⟩
      conv => whnf
      refine ⟨_, by rw [Int.toNat_natCast, Nat.mul_one]; exact hcb, rfl, ?_⟩
      cases b with
      | true =>
        conv => whnf
        refine ⟨fun _ => ?_, (fun h => by cases h)⟩
        conv => whnf
        refine ⟨fun c1 => ?_, fun c1 => ?_⟩
        · have c1 : i < l.length := lt_t c1
          obtain ⟨o, ho⟩ : ∃ o, l[i]? = some o := ⟨_, List.getElem?_eq_getElem (by omega)⟩
          obtain ⟨a, rfl, ⟨x0, x1, x2, x3, x4, x5, x6⟩, hfit⟩ := hbl i o ho
          have hq := hgl o (List.mem_of_getElem? ho)
          conv => whnf
          refine ⟨by omega, ?_⟩
          conv => whnf
          refine ⟨_, x0, rfl, ?_⟩
          conv => whnf
          refine ⟨_, x1, rfl, ?_⟩
          conv => whnf
          refine ⟨_, x2, rfl, ?_⟩
          conv => whnf
          refine ⟨_, x3, rfl, ?_⟩
          conv => whnf
          refine ⟨_, x4, rfl, ?_⟩
          conv => whnf
          refine ⟨_, x5, x6, ?_⟩
          have hl2 : ((b0 :: bs) ++ [o]).length ≤ m + 1 := by
            rw [List.length_append, List.length_singleton]
            omega
          conv => whnf
          refine ⟨rfl, [o], ⟨rfl, rfl, rfl⟩, by omega, by omega, ?_⟩
          conv => whnf
          refine ⟨⟨(m + 1, i + 1, k, b0 :: (bs ++ [o])), by show m + 1 ≤ n; omega, by show i + 1 ≤ l.length; omega, by show k ≤ rw.length; omega, ?_, ?_⟩, ⟨[2], ⟨rfl, ⟨rfl, rfl, trivial⟩, rfl⟩, rfl, rfl, rfl, eq_i64 (by rw [nadd, nwrapi (by omega)]), rfl, rfl, rfl, eq_i64 (by rw [nadd, nwrapi (by omega)]), trivial⟩, ?_⟩
          · exact hl2
          · intro x hx
            rcases List.mem_append.1 (show x ∈ (b0 :: bs) ++ [o] from hx) with hx | hx
            · exact hbs x hx
            · rw [List.mem_singleton.1 hx]
              exact ⟨hfit, hq⟩
          · show n - (m + 1) < n - m
            omega
        · conv => whnf
          refine ⟨(fun h => by cases (show (!true) = true from h)), fun _ => ?_⟩
          conv => whnf
          refine ⟨⟨(m + 1, i, k, (b0 :: bs)), by show m + 1 ≤ n; omega, by show i ≤ l.length; omega, by show k ≤ rw.length; omega, ?_, ?_⟩, ⟨[0], ⟨rfl, ⟨rfl, rfl, trivial⟩, rfl⟩, rfl, rfl, rfl, rfl, rfl, rfl, rfl, eq_i64 (by rw [nadd, nwrapi (by omega)]), trivial⟩, ?_⟩
          · exact Nat.le_trans hlen (Nat.le_succ _)
          · exact hbs
          · show n - (m + 1) < n - m
            omega
      | false =>
        conv => whnf
        refine ⟨(fun h => by cases h), fun _ => ?_⟩
        conv => whnf
        refine ⟨fun _ => ?_, (fun h => by cases (show (!false) = false from h))⟩
        conv => whnf
        refine ⟨fun c1 => ?_, fun c1 => ?_⟩
        · have c1 : k < rw.length := lt_t c1
          obtain ⟨o, ho⟩ : ∃ o, rw[k]? = some o := ⟨_, List.getElem?_eq_getElem (by omega)⟩
          obtain ⟨a, rfl, ⟨x0, x1, x2, x3, x4, x5, x6⟩, hfit⟩ := hbr k o ho
          have hq := hgr o (List.mem_of_getElem? ho)
          conv => whnf
          refine ⟨by omega, ?_⟩
          conv => whnf
          refine ⟨_, x0, rfl, ?_⟩
          conv => whnf
          refine ⟨fun c2 => ?_, fun c2 => ?_⟩
          · conv => whnf
            refine ⟨by omega, ?_⟩
            conv => whnf
            refine ⟨_, x0, rfl, ?_⟩
            conv => whnf
            refine ⟨_, x1, rfl, ?_⟩
            conv => whnf
            refine ⟨_, x2, rfl, ?_⟩
            conv => whnf
            refine ⟨_, x3, rfl, ?_⟩
            conv => whnf
            refine ⟨_, x4, rfl, ?_⟩
            conv => whnf
            refine ⟨_, x5, x6, ?_⟩
            have hl2 : ((b0 :: bs) ++ [o]).length ≤ m + 1 := by
              rw [List.length_append, List.length_singleton]
              omega
            conv => whnf
            refine ⟨rfl, [o], ⟨rfl, rfl, rfl⟩, by omega, by omega, ?_⟩
            conv => whnf
            refine ⟨⟨(m + 1, i, k + 1, b0 :: (bs ++ [o])), by show m + 1 ≤ n; omega, by show i ≤ l.length; omega, by show k + 1 ≤ rw.length; omega, ?_, ?_⟩, ⟨[2], ⟨rfl, ⟨rfl, rfl, trivial⟩, rfl⟩, rfl, rfl, rfl, rfl, eq_i64 (by rw [nadd, nwrapi (by omega)]), rfl, rfl, eq_i64 (by rw [nadd, nwrapi (by omega)]), trivial⟩, ?_⟩
            · exact hl2
            · intro x hx
              rcases List.mem_append.1 (show x ∈ (b0 :: bs) ++ [o] from hx) with hx | hx
              · exact hbs x hx
              · rw [List.mem_singleton.1 hx]
                exact ⟨hfit, hq⟩
            · show n - (m + 1) < n - m
              omega
          · conv => whnf
            refine ⟨⟨(m + 1, i, k, (b0 :: bs)), by show m + 1 ≤ n; omega, by show i ≤ l.length; omega, by show k ≤ rw.length; omega, ?_, ?_⟩, ⟨[0], ⟨rfl, ⟨rfl, rfl, trivial⟩, rfl⟩, rfl, rfl, rfl, rfl, rfl, rfl, rfl, eq_i64 (by rw [nadd, nwrapi (by omega)]), trivial⟩, ?_⟩
            · exact Nat.le_trans hlen (Nat.le_succ _)
            · exact hbs
            · show n - (m + 1) < n - m
              omega
        · conv => whnf
          refine ⟨⟨(m + 1, i, k, (b0 :: bs)), by show m + 1 ≤ n; omega, by show i ≤ l.length; omega, by show k ≤ rw.length; omega, ?_, ?_⟩, ⟨[0], ⟨rfl, ⟨rfl, rfl, trivial⟩, rfl⟩, rfl, rfl, rfl, rfl, rfl, rfl, rfl, eq_i64 (by rw [nadd, nwrapi (by omega)]), trivial⟩, ?_⟩
          · exact Nat.le_trans hlen (Nat.le_succ _)
          · exact hbs
          · show n - (m + 1) < n - m
            omega
    · have hbl4 : (b0 :: bs).length ≤ 400 := by omega
      have hne : b0 :: bs ≠ [] := List.cons_ne_nil _ _
      clear hbl hC hbr
      conv => whnf
      generalize b0 :: bs = both at *
      have hone : ∀ o ∈ both, o.tab.oneCell' = true := fun o ho => (hbs o ho).1.one
      refine Or.inl ?_
      conv => whnf
      refine CallsA.lift (H0 := [sopB both]) [0] rfl ⟨rfl, rfl, trivial⟩ rfl (sEncodeB w0 (l := both) rfl hne (by omega) (fun o ho => (hbs o ho).1) fun o ho => (hbs o ho).2.1) ?_
      rintro _ _ (⟨rfl, rfl⟩ | ⟨ss, hw, rfl, rfl⟩)
      · conv => whnf
        refine ⟨fun _ => ?_, fun h => absurd h (by decide)⟩
        conv => whnf
        exact Or.inl rfl
      have hfine : ∀ o ∈ both, o.fine w0 := fun o ho => ⟨(hbs o ho).2.1, (hbs o ho).2.2, hw.met o (by rw [List.take_length]; exact ho)⟩
      generalize (EncS.init.rafter both).rdone = sd0
      conv => whnf
      refine ⟨fun h => absurd h (by decide), fun _ => ?_⟩
      conv => whnf
      refine CallsA.lift (H0 := [sopB both]) [0] rfl ⟨rfl, rfl, trivial⟩ rfl (opsB w0 (l := both) rfl hne (by omega) hone) ?_
      rintro _ _ ⟨rfl, rfl⟩
      conv => whnf
      refine CallsA.lift (H0 := [.vec true 80 encOp [] 6 both]) [2] rfl ⟨rfl, rfl, trivial⟩ rfl (encodeN w0 (l := both) rfl hne (by omega) fun o ho => ⟨(hfine o ho).wr.puts, hone o ho⟩) ?_
      rintro _ _ ⟨rfl, rfl⟩
      have hdec := decodeS w0 hne (by omega) hfine hone
      generalize EncS.init.seen both = sn at *
      generalize strOf (EncS.init.after both).done = str at *
      conv => whnf
      refine CallsA.lift (H0 := [sopB both]) [0] rfl ⟨rfl, rfl, trivial⟩ rfl (opsB w0 (l := both) rfl hne (by omega) hone) ?_
      rintro _ _ ⟨rfl, rfl⟩
      conv => whnf
      refine CallsA.lift (H0 := [.vec true 80 encOp [] 6 both]) [4] rfl ⟨rfl, rfl, trivial⟩ rfl hdec ?_
      rintro _ _ ⟨rfl, sd, hsd, rfl, hall⟩
      conv => whnf
      refine Or.inl ?_
      conv => whnf
      refine ⟨fun h => absurd h (by decide), fun _ => ?_⟩
      conv => whnf
      refine ⟨fun h => absurd h (by decide), fun _ => ?_⟩
      conv => whnf
      refine ⟨fun h => absurd rfl (bne_t h), fun _ => ?_⟩
      conv => whnf
      refine Or.inl ?_
      conv => whnf
      refine ⟨_root_.Fin (both.length + 1), fun ⟨i, _⟩ => ⟨[(18, .o (.c (.vec 1 both.length))), (133, .o (.c (.vec 0 both.length))), (134, .o (.c (.val (.int .i64 both.length)))), (135, .o (.c (.val (.int .i64 i))))], [sopB both, seenBlk sd]⟩, fun i => both.length - i.1, ⟨⟨0, by omega⟩, [0, 5], ⟨rfl, ⟨rfl, rfl, rfl, rfl, trivial⟩, rfl⟩, rfl, rfl, rfl, rfl, trivial⟩, fun ⟨i, hi⟩ => ?_⟩
      conv => whnf
      refine ⟨fun h3 => ?_, fun h3 => ?_⟩
      · have h3 : i < both.length := lt_t h3
        obtain ⟨o, ho⟩ : ∃ o, both[i]? = some o := ⟨_, List.getElem?_eq_getElem h3⟩
        have hfit := (hbs o (List.mem_of_getElem? ho)).1
        obtain ⟨s, t, hs1, _, _, _, hbk⟩ := hall i o ho
        have hmw := meantW w0 hfit.a32 hfit.b32
        conv => whnf
        refine Or.inl ?_
        conv => whnf
        refine ⟨by omega, ?_⟩
        conv => whnf
        refine ⟨o, ho, ?_⟩
        conv => whnf
        refine ⟨fun c0 => ?_, fun c0 => ?_⟩
        · have c0 : o.act ≠ 0 := by
            intro h
            have c0 : (o.act != 0) = true := c0
            rw [h] at c0
            cases c0
          have q1 := hbk.2 c0
          conv => whnf
          refine ⟨by omega, ?_⟩
          conv => whnf
          refine ⟨s, hs1, ?_⟩
          conv => whnf
          refine CallsA.lift (H0 := []) [] rfl trivial rfl hmw ?_
          rintro _ _ ⟨rfl, rfl⟩
          conv => whnf
          refine ⟨⟨⟨s, hs1, rfl, rfl⟩, trivial⟩, ?_⟩
          conv => whnf
          refine ⟨fun h => ?_, fun _ => ?_⟩
          · have h : (s.value != o.means) = true := h
            rw [q1, bne_self_eq_false] at h
            cases h
          conv => whnf
          refine ⟨⟨i + 1, by omega⟩, ⟨[0, 1], ⟨rfl, ⟨rfl, rfl, rfl, rfl, trivial⟩, rfl⟩, rfl, rfl, rfl, eq_i64 ?_, trivial⟩, ?_⟩
          · rw [nadd, nwrapi (by omega)]
          · show both.length - (i + 1) < both.length - i
            omega
        · conv => whnf
          refine ⟨⟨trivial, trivial⟩, ?_⟩
          conv => whnf
          refine ⟨⟨i + 1, by omega⟩, ⟨[0, 1], ⟨rfl, ⟨rfl, rfl, rfl, rfl, trivial⟩, rfl⟩, rfl, rfl, rfl, eq_i64 ?_, trivial⟩, ?_⟩
          · rw [nadd, nwrapi (by omega)]
          · show both.length - (i + 1) < both.length - i
            omega
      · conv => whnf
        refine CallsA.lift (H0 := []) [] rfl trivial rfl (aliveW w0) ?_
        rintro _ _ ⟨rfl, rfl⟩
        conv => whnf
        exact Or.inl rfl
end Go.Proofs.Ytkomikpfnogjcaa
